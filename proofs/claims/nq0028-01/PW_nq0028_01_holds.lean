import PyProof.Rows.All
import Wide.All
import OpenK.AllK
import Wide.FinOn
import KE.KBytesAny
import KE.BitLaws
import KE.KPairComp
import PySem.Challenge.RW_nq0028_01
open PySem PySem.W PySem.Calls PyProof.Rows
set_option Elab.async false
set_option linter.all false
set_option compiler.extract_closed false
section -- Hd
open PySem PySem.W PyProof.Rows
set_option maxRecDepth 100000
set_option maxHeartbeats 8000000
namespace Mine
noncomputable def view : Program := PySem.W.view PySem.Challenge.rw_nq0028_01.row.prog [0, 1, 3, 4, 5, 6, 7, 9, 11, 12, 13, 17, 18, 19, 21, 22, 23, 24, 25, 26, 27, 28, 29, 30, 31]
noncomputable abbrev lv : List (Str × WData) := [(Str.ofString "_urlsafe_encode_translation", WData.bytes [0, 1, 2, 3, 4, 5, 6, 7, 8, 9, 10, 11, 12, 13, 14, 15, 16, 17, 18, 19, 20, 21, 22, 23, 24, 25, 26, 27, 28, 29, 30,
        31, 32, 33, 34, 35, 36, 37, 38, 39, 40, 41, 42, 45, 44, 45, 46, 95, 48, 49, 50, 51, 52, 53, 54, 55, 56, 57, 58,
        59, 60, 61, 62, 63, 64, 65, 66, 67, 68, 69, 70, 71, 72, 73, 74, 75, 76, 77, 78, 79, 80, 81, 82, 83, 84, 85, 86,
        87, 88, 89, 90, 91, 92, 93, 94, 95, 96, 97, 98, 99, 100, 101, 102, 103, 104, 105, 106, 107, 108, 109, 110, 111,
        112, 113, 114, 115, 116, 117, 118, 119, 120, 121, 122, 123, 124, 125, 126, 127, 128, 129, 130, 131, 132, 133,
        134, 135, 136, 137, 138, 139, 140, 141, 142, 143, 144, 145, 146, 147, 148, 149, 150, 151, 152, 153, 154, 155,
        156, 157, 158, 159, 160, 161, 162, 163, 164, 165, 166, 167, 168, 169, 170, 171, 172, 173, 174, 175, 176, 177,
        178, 179, 180, 181, 182, 183, 184, 185, 186, 187, 188, 189, 190, 191, 192, 193, 194, 195, 196, 197, 198, 199,
        200, 201, 202, 203, 204, 205, 206, 207, 208, 209, 210, 211, 212, 213, 214, 215, 216, 217, 218, 219, 220, 221,
        222, 223, 224, 225, 226, 227, 228, 229, 230, 231, 232, 233, 234, 235, 236, 237, 238, 239, 240, 241, 242, 243,
        244, 245, 246, 247, 248, 249, 250, 251, 252, 253, 254, 255])]
noncomputable abbrev loose : List Str := [Str.ofString "b2a_base64", Str.ofString "b64encode", Str.ofString "_urlsafe_encode_translation"]
noncomputable abbrev PR : Program := PySem.Challenge.rw_nq0028_01.row.prog
theorem left_join {p q : Program} {loose : List Str} {Xt : Shared → Bool} {α : Type} {Yf : Shared → α} {Ya : World → α} {N : Nat} (h1 : ∀ w, (openEnds treeTable p w N).map (fun s => openSeen q loose (importedModules p.main.body) Xt true s) = some (openGood q loose))
    (h2 : ∀ w, (openEnds treeTable p w N).map Yf = some (Ya w)) : LeftO p q loose Xt Yf Ya N := fun w => by
  have a := h1 w
  have b := h2 w
  cases e : openEnds treeTable p w N with
  | none => rw [e] at a; cases a
  | some s =>
    rw [e] at a b
    exact congrArg some (congr (congrArg Prod.mk (Option.some.inj a)) (Option.some.inj b))
/-- the text's looks, by the library's quick forms of what they look with -/
theorem wsaid : OpenLaw.wellSaid PySem.Challenge.rw_nq0028_01 = true := by
  (try rewrite [PySem.W.Fast.te9446332074065402090]); kernel_rfl
theorem wsaid2 : (chainsOk view && opensWell PR && (frees (OpenRow.toRowW PySem.Challenge.rw_nq0028_01.row) && (OpenRow.toRowW PySem.Challenge.rw_nq0028_01.row).within.isEmpty)) = true := by decide +kernel
/-- the top's run and what stands behind it, by the library's quick forms -/
theorem run_seen (w : World) : (openEnds treeTable PR w 2210).map (fun s => openSeen view loose (importedModules PR.main.body) (fun s => xlAt view lv s && recOk (RowW.records (OpenRow.toRowW PySem.Challenge.rw_nq0028_01.row)) s) true s) = some (openGood view loose) := by
  unfold openEnds fencedOpening topFrom topStub; (try rewrite [PySem.W.Fast.te14364793385576792824, PySem.W.Fast.te10274390034422433532, PySem.W.Fast.te14082659384304107361, PySem.W.Fast.te14289696077712309145, PySem.W.Fast.te1435165496053646825, PySem.W.Fast.te8920871248978507458, PySem.W.Fast.te17154629097778926822, PySem.W.Fast.te12822647523644345616, PySem.W.Fast.te4187177175401517315]); kernel_rfl
/-- the head at once: no pieces, no twins -/
local macro_rules | `(tactic| o_head $H) => do
  let hw := Lean.mkIdent `hw
  let hc := Lean.mkIdent `hc
  `(tactic| (refine holds_open (q := Mine.view) (loose := Mine.loose) (Xt := fun s => xlAt Mine.view Mine.lv s && recOk (RowW.records (OpenRow.toRowW PySem.Challenge.rw_nq0028_01.row)) s) (XP := XL Mine.view Mine.lv) (Yf := Hook.obs $H) (Ya := Hook.val $H) (YP := Hook.says $H) (N := 2210) ?hl (Hook.of $H) (Hook.keeps $H) (fun s e => xl_of s (Bool.and_eq_true_iff.mp e).1) XL.keeps (by rfl) (by rfl) (by rfl) (fun s e => recFacts_of (Bool.and_eq_true_iff.mp e).2) (by rfl) (by assumption) wsaid2 ⟨rfl, rfl, rfl, rfl, rfl, by decide +kernel⟩ ?$hw ?$hc; (case hl => refine left_join run_seen fun w => ?_; unfold openEnds fencedOpening topFrom topStub; (try rewrite [PySem.W.Fast.te14364793385576792824, PySem.W.Fast.te10274390034422433532, PySem.W.Fast.te14082659384304107361, PySem.W.Fast.te14289696077712309145, PySem.W.Fast.te1435165496053646825, PySem.W.Fast.te8920871248978507458, PySem.W.Fast.te17154629097778926822, PySem.W.Fast.te12822647523644345616]); kernel_rfl)))
local macro_rules | `(tactic| o_law) => `(tactic| refine holds_law wsaid fun said => ?_)
open_top hd for PySem.Challenge.rw_nq0028_01
end Mine

end -- Hd
section -- B0
open PySem PySem.W PySem.Calls PyProof.Rows
set_option maxRecDepth 100000
set_option maxHeartbeats 8000000
namespace Mine
noncomputable abbrev PG : Program := PySem.Challenge.rw_nq0028_01.row.prog
noncomputable abbrev LO : List Str := looseW Mine.view Mine.loose
noncomputable abbrev TT (mean : ExcName → Option Value) (mg mb : Str → Option Value) (h : Heap) : Prop := Top Mine.view LO mean mg mb h
/-- what stands around a call: no exception is being handled -/
noncomputable abbrev AA (dp un : Nat) (fr : Option (List Env)) (gd : Option (List Code)) : Around := { handled := none, depth := dp, frames := fr, guards := gd, units := un }

/-- every object that stood still stands -/
noncomputable abbrev Keep (h h' : Heap) : Prop := ∀ b o, h.get? b = some o → h'.get? b = some o
theorem Keep.rfl {h : Heap} : Keep h h := fun _ _ e => e
theorem Keep.trans {h h' h'' : Heap} (a : Keep h h') (b : Keep h' h'') : Keep h h'' := fun c o e => b c o (a c o e)

theorem enter_pure {w : World} {A : Around} {Q E : Value → Shared → Prop} {s : Shared} {mean : ExcName → Option Value} {mg mb : Str → Option Value} {K : Frag}
    {name qual : Str} {params : Arguments} {body : List Stmt} {scope : Scope} {dV kV doc pm cdv ct oc : Value} {an od : Option Addr} {osl : Array (Option Value)} {f : Addr} {args : List Value} {kw : List (Str × Value)} {binds : List (Str × Value)}
    (X : K.In s.heap) (T : TT mean mg mb s.heap)
    (ho : K.lookup f = some ⟨oc, od, .func (fnOf name qual params body scope dV kV doc pm an cdv ct), osl⟩) (hcd : codeIn K cdv qual = true) (hroom : A.depth < recursionLimit)
    (hbind : BindsTo s (fnOf name qual params body scope dV kV doc pm an cdv ct) ⟨args, kw⟩ binds) (hloc : ∀ y ∈ binds, scope.names.lookup y.1 = some .local)
    (h : ∀ L h₁, Fr s.heap L h₁ (fun y => binds.reverse.lookup y) → News s.heap L h₁ [] →
      wpAny (model PG w) (A.deeper (envOf qual scope L f cdv)) (execs body (envOf qual scope L f cdv))
        (fun fl s' => Q (match fl with | .ret v => v | _ => .none) s') (fun _ _ => False)
        { s with heap := h₁, toks := s.toks + binds.length })
    (hco : scope.isCoroutine = false) (hgen : scope.isGenerator = false) (hk : scope.kind = .function)
    (hcell : ∀ x ∈ scope.names, x.2 ≠ .cell) : wpAny (model PG w) A (call (.ref f) args kw) Q E s := by
  refine wpAny_call (codeAny_call_def (fd := fnOf name qual params body scope dV kV doc pm an cdv ct) (body := body) (binds := binds) hroom (X _ _ ho) rfl T.nolimit (codeRec_of X hcd) rfl hbind hcell hloc (fun h₁ hns hk₁ => ?_) hco hgen hk)
  exact wpAny_mono (h s.heap.objs.size h₁ ⟨hns, hk₁, Nat.le_refl _⟩ News.nil) (fun _ _ x => x) (fun _ _ x => x.elim)

/-- ends of a pure call -/
theorem end_bool {Q : Value → Shared → Prop} {s : Shared} {h' : Heap} {tk : Nat} {x y : Bool} (hQ : ∀ h' tk, Keep s.heap h' → Q (.bool x) { s with heap := h', toks := tk }) (k : Keep s.heap h') (e : y = x) :
    Q (.bool y) { s with heap := h', toks := tk } := e ▸ hQ h' tk k
theorem end_bytes {Q : Value → Shared → Prop} {s : Shared} {h' : Heap} {tk : Nat} {b : Array UInt8} {t : Tok} {ks : List Int} (hQ : ∀ b t h' tk, Keep s.heap h' → KBw.bInts b = ks → Q (.bytes b t) { s with heap := h', toks := tk }) (k : Keep s.heap h') (e : KBw.bInts b = ks) :
    Q (.bytes b t) { s with heap := h', toks := tk } := hQ b t h' tk k e
theorem end_str {Q : Value → Shared → Prop} {s : Shared} {h' : Heap} {tk : Nat} {x y : Str} {t : Tok} (hQ : ∀ t h' tk, Keep s.heap h' → Q (.str x t) { s with heap := h', toks := tk }) (k : Keep s.heap h') (e : y = x) :
    Q (.str y t) { s with heap := h', toks := tk } := e ▸ hQ t h' tk k
/-- the walk is to stand still here -/
noncomputable def Stop (P : Prop) : Prop := P
theorem stopHere {P : Prop} (h : Stop P) : P := h
end Mine

end -- B0
def Mine.PadG : Prop := True
open Mine
local macro_rules | `(tactic| walk_at "mine_enter") => `(tactic| ((case kX => k_asm); (case kT => k_asm); (case k6 => k_is); (case k7 => k_is); (case k8 => (show _ < 1000; (try dsimp only [Around.deeper, Around.in1]); omega)); (case k9 => first | exact BindsTo.of_eq rfl | exact binds_K (by assumption) rfl (by k_is) rfl rfl rfl); (case c5 => decide); (case kB => exact locs rfl); (case c2 => exact rfl); (case c3 => exact rfl); (case c4 => exact rfl); k_whole; intro L' h' F' N'; (try dsimp only)))
local macro_rules | `(tactic| walk_at "mine_centr") => `(tactic| ((case kX => k_asm); (case kT => k_asm); (case k6 => k_is); (case k7 => k_is); (case k8 => (show _ < 1000; (try dsimp only [Around.deeper, Around.in1]); omega)); (case k9 => first | exact BindsTo.of_eq rfl | exact binds_K (by assumption) rfl (by k_is) rfl rfl rfl); (case kB => exact rfl); (case kD => decide +kernel); (case c2 => exact rfl); (case c3 => exact rfl); (case c4 => exact rfl); k_whole; intro L' h' tk' cells' F' N' Y'; k_cells Y'; (try simp only [List.cons_append, List.nil_append] at N'); (try dsimp only)))
local macro_rules | `(tactic| walk_at "mine_ctx") => `(tactic| ((case kX => k_asm); (case kT => k_asm); (case kd => (dsimp only [AA, Around.deeper]; omega)); k_whole))
local macro_rules | `(tactic| walk_at "mine_kept") => `(tactic| ((with_reducible rename Fr _ _ _ _ => kF'); (with_reducible rename News _ _ _ _ => kN'); (with_reducible rename Keep _ _ => hk'); (have F' := Fr.keptAll kF' hk'); (have N' := News.grown kN' hk'); clear hk'; (try k_sweep); (try dsimp only)))
section -- P1
open PySem PySem.W
namespace Mine
/-- base 64's signs for figures, as codes -/
noncomputable def B64L : List Int := [65, 66, 67, 68, 69, 70, 71, 72, 73, 74, 75, 76, 77, 78, 79, 80, 81, 82, 83, 84, 85, 86, 87, 88, 89, 90, 97, 98, 99, 100, 101, 102, 103, 104, 105, 106, 107, 108, 109, 110, 111, 112, 113, 114, 115, 116, 117, 118, 119, 120, 121, 122, 48, 49, 50, 51, 52, 53, 54, 55, 56, 57, 43, 47]
noncomputable def bch (f : Int) : Int := B64L.getD f.toNat 0
/-- what base 64 writes, the figures' signs by g -/
noncomputable def encBy (g : Int → Int) : List Int → List Int
  | [] => []
  | [a] => [g (a / 4), g (a % 4 * 16), 61, 61]
  | [a, b] => [g (a / 4), g (a % 4 * 16 + b / 16), g (b % 16 * 4), 61]
  | a :: b :: c :: r => g (a / 4) :: g (a % 4 * 16 + b / 16) :: g (b % 16 * 4 + c / 64) :: g (c % 64) :: encBy g r
/-- what is written behind the last octet, before the rest is flushed -/
noncomputable def partBy (g : Int → Int) : List Int → List Int
  | [] => []
  | [a] => [g (a / 4)]
  | [a, b] => [g (a / 4), g (a % 4 * 16 + b / 16)]
  | a :: b :: c :: r => g (a / 4) :: g (a % 4 * 16 + b / 16) :: g (b % 16 * 4 + c / 64) :: g (c % 64) :: partBy g r
/-- the bits that are left -/
noncomputable def left3 : List Int → Int
  | [] => 0
  | [a] => a % 4
  | [_, b] => b % 16
  | _ :: _ :: _ :: r => left3 r

theorem part_snoc0 (g : Int → Int) (n : Int) : ∀ pre : List Int, pre.length % 3 = 0 → partBy g (pre ++ [n]) = partBy g pre ++ [g (n / 4)] ∧ left3 (pre ++ [n]) = n % 4
  | [], _ => ⟨rfl, rfl⟩
  | [_], h => by simp at h
  | [_, _], h => by simp at h
  | a :: b :: c :: r, h => by
    have h' : r.length % 3 = 0 := by simp only [List.length_cons] at h; omega
    obtain ⟨e1, e2⟩ := part_snoc0 g n r h'
    exact ⟨by simp only [List.cons_append, partBy, e1], by simp only [List.cons_append, left3, e2]⟩
theorem part_snoc1 (g : Int → Int) (n : Int) : ∀ pre : List Int, pre.length % 3 = 1 → partBy g (pre ++ [n]) = partBy g pre ++ [g (left3 pre * 16 + n / 16)] ∧ left3 (pre ++ [n]) = n % 16
  | [], h => by simp at h
  | [_], _ => ⟨rfl, rfl⟩
  | [_, _], h => by simp at h
  | a :: b :: c :: r, h => by
    have h' : r.length % 3 = 1 := by simp only [List.length_cons] at h; omega
    obtain ⟨e1, e2⟩ := part_snoc1 g n r h'
    exact ⟨by simp only [List.cons_append, partBy, left3, e1], by simp only [List.cons_append, left3, e2]⟩
theorem part_snoc2 (g : Int → Int) (n : Int) : ∀ pre : List Int, pre.length % 3 = 2 → partBy g (pre ++ [n]) = partBy g pre ++ [g (left3 pre * 4 + n / 64), g (n % 64)]
  | [], h => by simp at h
  | [_], h => by simp at h
  | [_, _], _ => rfl
  | a :: b :: c :: r, h => by
    have h' : r.length % 3 = 2 := by simp only [List.length_cons] at h; omega
    simp only [List.cons_append, partBy, left3, part_snoc2 g n r h']
theorem enc_part0 (g : Int → Int) : ∀ r : List Int, r.length % 3 = 0 → encBy g r = partBy g r
  | [], _ => rfl
  | [_], h => by simp at h
  | [_, _], h => by simp at h
  | a :: b :: c :: r, h => by
    have h' : r.length % 3 = 0 := by simp only [List.length_cons] at h; omega
    simp only [encBy, partBy, enc_part0 g r h']
theorem enc_part1 (g : Int → Int) : ∀ r : List Int, r.length % 3 = 1 → encBy g r = partBy g r ++ [g (left3 r * 16), 61, 61]
  | [], h => by simp at h
  | [_], _ => rfl
  | [_, _], h => by simp at h
  | a :: b :: c :: r, h => by
    have h' : r.length % 3 = 1 := by simp only [List.length_cons] at h; omega
    simp only [encBy, partBy, left3, enc_part1 g r h', List.cons_append]
theorem enc_part2 (g : Int → Int) : ∀ r : List Int, r.length % 3 = 2 → encBy g r = partBy g r ++ [g (left3 r * 4), 61]
  | [], h => by simp at h
  | [_], h => by simp at h
  | [_, _], _ => rfl
  | a :: b :: c :: r, h => by
    have h' : r.length % 3 = 2 := by simp only [List.length_cons] at h; omega
    simp only [encBy, partBy, left3, enc_part2 g r h', List.cons_append]
theorem part_len (g : Int → Int) : ∀ r : List Int, (partBy g r).length ≤ 2 * r.length
  | [] => by simp [partBy]
  | [_] => by simp [partBy]
  | [_, _] => by simp [partBy]
  | a :: b :: c :: r => by
    have := part_len g r
    simp only [partBy, List.length_cons]; omega
theorem enc_len (g : Int → Int) : ∀ r : List Int, (encBy g r).length ≤ 4 * r.length
  | [] => by simp [encBy]
  | [_] => by simp [encBy]
  | [_, _] => by simp [encBy]
  | a :: b :: c :: r => by
    have := enc_len g r
    simp only [encBy, List.length_cons]; omega
theorem map_enc (f g : Int → Int) (h : f 61 = 61) : ∀ r : List Int, (encBy g r).map f = encBy (fun x => f (g x)) r
  | [] => rfl
  | [_] => by simp [encBy, h]
  | [_, _] => by simp [encBy, h]
  | a :: b :: c :: r => by simp only [encBy, List.map_cons, map_enc f g h r]
/-- the figures of octets lie below 64 -/
theorem figA {a : Int} (ha : 0 ≤ a ∧ a < 256) : 0 ≤ a / 4 ∧ a / 4 < 64 := by omega
theorem figB {a b : Int} (hb : 0 ≤ b ∧ b < 256) : 0 ≤ a % 4 * 16 + b / 16 ∧ a % 4 * 16 + b / 16 < 64 := by omega
theorem figB0 (a : Int) : 0 ≤ a % 4 * 16 ∧ a % 4 * 16 < 64 := by omega
theorem figC {b c : Int} (hc : 0 ≤ c ∧ c < 256) : 0 ≤ b % 16 * 4 + c / 64 ∧ b % 16 * 4 + c / 64 < 64 := by omega
theorem figC0 (b : Int) : 0 ≤ b % 16 * 4 ∧ b % 16 * 4 < 64 := by omega
theorem figD (c : Int) : 0 ≤ c % 64 ∧ c % 64 < 64 := by omega
theorem oct1 {a a' : Int} (e1 : a / 4 = a' / 4) (e2 : a % 4 * 16 = a' % 4 * 16) : a = a' := by omega
theorem oct2 {a a' b b' : Int} (hb : 0 ≤ b ∧ b < 256) (hb' : 0 ≤ b' ∧ b' < 256) (e2 : a % 4 * 16 + b / 16 = a' % 4 * 16 + b' / 16) : a % 4 * 16 = a' % 4 * 16 ∧ b / 16 = b' / 16 := by omega
theorem oct3 {b b' : Int} (e2 : b / 16 = b' / 16) (e3 : b % 16 * 4 = b' % 16 * 4) : b = b' := by omega
theorem oct4 {b b' c c' : Int} (hc : 0 ≤ c ∧ c < 256) (hc' : 0 ≤ c' ∧ c' < 256) (e3 : b % 16 * 4 + c / 64 = b' % 16 * 4 + c' / 64) : b % 16 * 4 = b' % 16 * 4 ∧ c / 64 = c' / 64 := by omega
theorem oct5 {c c' : Int} (e3 : c / 64 = c' / 64) (e4 : c % 64 = c' % 64) : c = c' := by omega
theorem in1 {P : Int → Prop} {a : Int} {r : List Int} (h : ∀ n ∈ a :: r, P n) : P a := h a (.head _)
theorem inr {P : Int → Prop} {a : Int} {r : List Int} (h : ∀ n ∈ a :: r, P n) : ∀ n ∈ r, P n := fun n hn => h n (.tail _ hn)
theorem all4 {P : Int → Prop} {a b c d : Int} {r : List Int} (ha : P a) (hb : P b) (hc : P c) (hd : P d) (hr : ∀ x ∈ r, P x) : ∀ x ∈ a :: b :: c :: d :: r, P x := fun x hx => by
  rcases List.mem_cons.mp hx with rfl | hx
  · exact ha
  rcases List.mem_cons.mp hx with rfl | hx
  · exact hb
  rcases List.mem_cons.mp hx with rfl | hx
  · exact hc
  rcases List.mem_cons.mp hx with rfl | hx
  · exact hd
  exact hr x hx
theorem enc_mem {g : Int → Int} {P : Int → Prop} (h61 : P 61) (hg : ∀ f, 0 ≤ f → f < 64 → P (g f)) : ∀ r : List Int, (∀ n ∈ r, 0 ≤ n ∧ n < 256) → ∀ x ∈ encBy g r, P x
  | [], _ => fun x hx => by cases hx
  | [_], h => all4 (hg _ (figA (in1 h)).1 (figA (in1 h)).2) (hg _ (figB0 _).1 (figB0 _).2) h61 h61 (fun x hx => by cases hx)
  | [_, _], h => all4 (hg _ (figA (in1 h)).1 (figA (in1 h)).2) (hg _ (figB (in1 (inr h))).1 (figB (in1 (inr h))).2) (hg _ (figC0 _).1 (figC0 _).2) h61 (fun x hx => by cases hx)
  | _ :: _ :: _ :: r, h => all4 (hg _ (figA (in1 h)).1 (figA (in1 h)).2) (hg _ (figB (in1 (inr h))).1 (figB (in1 (inr h))).2) (hg _ (figC (in1 (inr (inr h)))).1 (figC (in1 (inr (inr h)))).2) (hg _ (figD _).1 (figD _).2) (enc_mem h61 hg r (inr (inr (inr h))))

/-- signs that tell figures apart, none of them '=' -/
structure Signs (g : Int → Int) : Prop where
  inj : ∀ x y, 0 ≤ x → x < 64 → 0 ≤ y → y < 64 → g x = g y → x = y
  pad : ∀ x, 0 ≤ x → x < 64 → g x ≠ 61
theorem Signs.one {g : Int → Int} (S : Signs g) {x y : Int} (hx : 0 ≤ x ∧ x < 64) (hy : 0 ≤ y ∧ y < 64) (e : g x = g y) : x = y := S.inj x y hx.1 hx.2 hy.1 hy.2 e
theorem Signs.no {g : Int → Int} (S : Signs g) {x : Int} {P : Prop} (hx : 0 ≤ x ∧ x < 64) (e : g x = 61) : P := absurd e (S.pad x hx.1 hx.2)
theorem cons2 {a b a' b' : Int} {r r' : List Int} (e : a :: b :: r = a' :: b' :: r') : a = a' ∧ b = b' ∧ r = r' := by
  injection e with e1 e; injection e with e2 e; exact ⟨e1, e2, e⟩
theorem four_eq {g : Int → Int} (S : Signs g) {a b c a' b' c' : Int} (hb : 0 ≤ b ∧ b < 256) (hb' : 0 ≤ b' ∧ b' < 256) (hc : 0 ≤ c ∧ c < 256) (hc' : 0 ≤ c' ∧ c' < 256) (ha : 0 ≤ a ∧ a < 256) (ha' : 0 ≤ a' ∧ a' < 256)
    (e1 : g (a / 4) = g (a' / 4)) (e2 : g (a % 4 * 16 + b / 16) = g (a' % 4 * 16 + b' / 16)) (e3 : g (b % 16 * 4 + c / 64) = g (b' % 16 * 4 + c' / 64)) (e4 : g (c % 64) = g (c' % 64)) : a = a' ∧ b = b' ∧ c = c' :=
  have k1 := S.one (figA ha) (figA ha') e1
  have k2 := oct2 hb hb' (S.one (figB hb) (figB hb') e2)
  have k3 := oct4 hc hc' (S.one (figC hc) (figC hc') e3)
  ⟨oct1 k1 k2.1, oct3 k2.2 k3.1, oct5 k3.2 (S.one (figD c) (figD c') e4)⟩
theorem enc_inj {g : Int → Int} (S : Signs g) : ∀ r r' : List Int, (∀ n ∈ r, 0 ≤ n ∧ n < 256) → (∀ n ∈ r', 0 ≤ n ∧ n < 256) → encBy g r = encBy g r' → r = r'
  | [], [], _, _, _ => rfl
  | [], [_], _, _, e => nomatch e
  | [], [_, _], _, _, e => nomatch e
  | [], _ :: _ :: _ :: _, _, _, e => nomatch e
  | [_], [], _, _, e => nomatch e
  | [_, _], [], _, _, e => nomatch e
  | _ :: _ :: _ :: _, [], _, _, e => nomatch e
  | [_], [_], h, h', e => by
    have e := cons2 e
    rw [oct1 (S.one (figA (in1 h)) (figA (in1 h')) e.1) (S.one (figB0 _) (figB0 _) e.2.1)]
  | [_], [_, _], _, _, e => S.no (figC0 _) (cons2 (cons2 e).2.2).1.symm
  | [_, _], [_], _, _, e => S.no (figC0 _) (cons2 (cons2 e).2.2).1
  | [_], _ :: _ :: _ :: _, _, h', e => S.no (figC (in1 (inr (inr h')))) (cons2 (cons2 e).2.2).1.symm
  | _ :: _ :: _ :: _, [_], h, _, e => S.no (figC (in1 (inr (inr h)))) (cons2 (cons2 e).2.2).1
  | [_, _], [_, _], h, h', e => by
    have f := cons2 (cons2 e).2.2
    have e := cons2 e
    have k := oct2 (in1 (inr h)) (in1 (inr h')) (S.one (figB (in1 (inr h))) (figB (in1 (inr h'))) e.2.1)
    rw [oct1 (S.one (figA (in1 h)) (figA (in1 h')) e.1) k.1, oct3 k.2 (S.one (figC0 _) (figC0 _) f.1)]
  | [_, _], _ :: _ :: _ :: _, _, _, e => S.no (figD _) (cons2 (cons2 e).2.2).2.1.symm
  | _ :: _ :: _ :: _, [_, _], _, _, e => S.no (figD _) (cons2 (cons2 e).2.2).2.1
  | _ :: _ :: _ :: r, _ :: _ :: _ :: r', h, h', e => by
    have f := cons2 (cons2 e).2.2
    have e := cons2 e
    have k := four_eq S (in1 (inr h)) (in1 (inr h')) (in1 (inr (inr h))) (in1 (inr (inr h'))) (in1 h) (in1 h') e.1 e.2.1 f.1 f.2.1
    rw [k.1, k.2.1, k.2.2, enc_inj S r r' (inr (inr (inr h))) (inr (inr (inr h'))) f.2.2]

/-- _law_below, by the octets -/
noncomputable def belowB (bs cs : List Int) (k : Int) : Bool := cs.length % 3 == 0 && bs.take cs.length == cs && decide (cs.length < bs.length) && (bs.getD cs.length 0) / 4 == k
theorem belowB_cons (a b c : Int) (n m : List Int) (k : Int) : belowB (a :: b :: c :: n) (a :: b :: c :: m) k = belowB n m k := by
  unfold belowB
  have h1 : (m.length + 1 + 1 + 1) % 3 = m.length % 3 := by omega
  simp [h1]
theorem pre_cons (x y : Int) (l r : List Int) : (x :: l).isPrefixOf (y :: r) = (x == y && l.isPrefixOf r) := rfl
theorem pre_ne {x y : Int} (l r : List Int) (h : x ≠ y) : (x :: l).isPrefixOf (y :: r) = false := by rw [pre_cons, beq_eq_false_iff_ne.mpr h, Bool.false_and]
theorem pre_tl {a b a' b' : Int} {l r : List Int} (h : l.isPrefixOf r = false) : (a :: b :: l).isPrefixOf (a' :: b' :: r) = false := by rw [pre_cons, pre_cons, h, Bool.and_false, Bool.and_false]
theorem pre_one (x y : Int) (r : List Int) : [x].isPrefixOf (y :: r) = (x == y) := by rw [pre_cons]; exact Bool.and_true _
theorem pre_snd {x y x' y' : Int} (l r : List Int) (h : y ≠ y') : (x :: y :: l).isPrefixOf (x' :: y' :: r) = false := by rw [pre_cons, pre_ne _ _ h, Bool.and_false]
theorem pre_two (x y d x' y' : Int) (l : List Int) : (x :: y :: d :: l).isPrefixOf [x', y'] = false := by
  rw [pre_cons, pre_cons]
  show (_ && (_ && false)) = false
  rw [Bool.and_false, Bool.and_false]
theorem le1 (a : Int) {b c d : Int} (r : List Int) : [a].length ≤ (b :: c :: d :: r).length := Nat.succ_le_succ (Nat.zero_le _)
theorem le2 (a a' : Int) {b c d : Int} (r : List Int) : [a, a'].length ≤ (b :: c :: d :: r).length := Nat.succ_le_succ (Nat.succ_le_succ (Nat.zero_le _))
theorem below_len {n m : List Int} {k : Int} (h : m.length % 3 = 1 ∨ m.length % 3 = 2 ∨ n.length ≤ m.length) : belowB n m k = false := by
  unfold belowB
  rcases h with h | h | h
  · rw [h]; rfl
  · rw [h]; rfl
  · rw [decide_eq_false (Nat.not_lt.mpr h), Bool.and_false, Bool.false_and]
theorem below_nil (a k : Int) (r : List Int) : belowB (a :: r) [] k = (a / 4 == k) := by
  unfold belowB
  simp
theorem first_sign {g : Int → Int} {d k a : Int} (r : List Int) (ha : 0 ≤ a ∧ a < 256) (hk : ∀ f, 0 ≤ f → f < 64 → (g f = d ↔ f = k)) : [d].isPrefixOf (g (a / 4) :: r) = (a / 4 == k) := by
  have h := hk (a / 4) (figA ha).1 (figA ha).2
  rw [pre_one]
  cases e : a / 4 == k with
  | true => exact beq_iff_eq.mpr (h.mpr (beq_iff_eq.mp e)).symm
  | false => exact beq_eq_false_iff_ne.mpr fun x => beq_eq_false_iff_ne.mp e (h.mp x.symm)
/-- a text of base 64 that begins with another one and a sign -/
theorem enc_below {g : Int → Int} (S : Signs g) {d k : Int} (hd : d ≠ 61) (hk : ∀ f, 0 ≤ f → f < 64 → (g f = d ↔ f = k)) :
    ∀ n m : List Int, (∀ x ∈ n, 0 ≤ x ∧ x < 256) → (∀ x ∈ m, 0 ≤ x ∧ x < 256) → ((encBy g m ++ [d]).isPrefixOf (encBy g n) = belowB n m k)
  | [], [], _, _ => rfl
  | [_], [], h, _ => (first_sign _ (in1 h) hk).trans (below_nil _ k _).symm
  | [_, _], [], h, _ => (first_sign _ (in1 h) hk).trans (below_nil _ k _).symm
  | _ :: _ :: _ :: _, [], h, _ => (first_sign _ (in1 h) hk).trans (below_nil _ k _).symm
  | [], [_], _, _ => rfl
  | [], [_, _], _, _ => rfl
  | [], _ :: _ :: _ :: _, _, _ => (below_len (.inr (.inr (Nat.zero_le _)))).symm
  | [_], [_], _, _ => (pre_tl (pre_two _ _ _ _ _ _)).trans (below_len (.inl rfl)).symm
  | [_], [_, _], _, _ => (pre_tl (pre_two _ _ _ _ _ _)).trans (below_len (.inr (.inl rfl))).symm
  | [_, _], [_], _, _ => (pre_tl (pre_two _ _ _ _ _ _)).trans (below_len (.inl rfl)).symm
  | [_, _], [_, _], _, _ => (pre_tl (pre_two _ _ _ _ _ _)).trans (below_len (.inr (.inl rfl))).symm
  | _ :: _ :: _ :: _, [_], h, _ => (pre_tl (pre_ne _ _ fun e => S.no (figC (in1 (inr (inr h)))) e.symm)).trans (below_len (.inl rfl)).symm
  | _ :: _ :: _ :: _, [_, _], h, _ => (pre_tl (pre_snd _ _ fun e => S.no (figD _) e.symm)).trans (below_len (.inr (.inl rfl))).symm
  | [_], _ :: _ :: _ :: _, _, h => (pre_tl (pre_ne _ _ fun e => S.no (figC (in1 (inr (inr h)))) e)).trans (below_len (.inr (.inr (le1 _ _)))).symm
  | [_, _], _ :: _ :: _ :: _, _, h => (pre_tl (pre_snd _ _ fun e => S.no (figD _) e)).trans (below_len (.inr (.inr (le2 _ _ _)))).symm
  | a' :: b' :: c' :: n, a :: b :: c :: m, h', h => by
    have ih := enc_below S hd hk n m (inr (inr (inr h'))) (inr (inr (inr h)))
    by_cases e : a = a' ∧ b = b' ∧ c = c'
    · obtain ⟨rfl, rfl, rfl⟩ := e
      rw [belowB_cons, ← ih]
      simp only [encBy, List.cons_append, pre_cons, beq_self_eq_true, Bool.true_and]
    · have l : belowB (a' :: b' :: c' :: n) (a :: b :: c :: m) k = false := by
        unfold belowB
        have : ((a' :: b' :: c' :: n).take (a :: b :: c :: m).length == a :: b :: c :: m) = false := by
          rw [beq_eq_false_iff_ne]
          intro e'
          have f := cons2 e'
          injection f.2.2 with f3 _
          exact e ⟨f.1.symm, f.2.1.symm, f3.symm⟩
        rw [this, Bool.and_false, Bool.false_and, Bool.false_and]
      rw [l]
      refine Bool.eq_false_iff.mpr fun p => e ?_
      simp only [encBy, List.cons_append, pre_cons, Bool.and_eq_true, beq_iff_eq] at p
      exact four_eq S (in1 (inr h)) (in1 (inr h')) (in1 (inr (inr h))) (in1 (inr (inr h'))) (in1 h) (in1 h') p.1 p.2.1 p.2.2.1 p.2.2.2.1
theorem bitOr_low {x n : Int} (hx : 0 ≤ x) (h0 : 0 ≤ n) (h1 : n < 256) : Builtin.bitOr (x * 256) n = x * 256 + n := by
  have e : Builtin.bitOr (x * 256) n = (((x * 256).toNat ||| n.toNat : Nat) : Int) := by
    unfold Builtin.bitOr Builtin.bitAnd Builtin.bitNot
    have h2 : ¬ (0 ≤ -(x * 256) - 1) := by omega
    have h3 : ¬ (0 ≤ -n - 1) := by omega
    simp only [h2, h3, decide_false]
    have h4 : (-(-(x * 256) - 1) - 1) = x * 256 := by omega
    have h5 : (-(-n - 1) - 1) = n := by omega
    rw [h4, h5]; omega
  rw [e]
  obtain ⟨k, rfl⟩ := Int.eq_ofNat_of_zero_le hx
  obtain ⟨j, rfl⟩ := Int.eq_ofNat_of_zero_le h0
  have hj : j < 2 ^ 8 := by omega
  have e2 : ((k : Int) * 256).toNat = 2 ^ 8 * k := by omega
  rw [e2, Int.toNat_natCast, ← Nat.two_pow_add_eq_or_of_lt hj]
  omega
end Mine

end -- P1
theorem Mine.pad_B1 : Mine.PadG := by first | (walk1; fail "pad") | exact trivial
section -- B1
open PySem PySem.W PySem.Calls PyProof.Rows
set_option maxRecDepth 100000
set_option maxHeartbeats 8000000
namespace Mine
theorem dummy2 (w : World) (h : Heap) : (hd.heap_1 w.params).In h → PySem.Challenge.rw_nq0028_01.Holds → True := by
  k_fill
  intro _ _; trivial
theorem bInts_inj {b c : Array UInt8} (h : KBw.bInts b = KBw.bInts c) : b = c := by
  have : b.toList = c.toList := by
    refine (List.map_inj_right (f := fun x : UInt8 => ((x.toNat : Nat) : Int)) ?_).mp h
    intro x y e
    have e' : x.toNat = y.toNat := Int.ofNat.inj e
    exact UInt8.toNat_inj.mp e'
  exact Array.toList_inj.mp this
theorem ints_eq {b c : Array UInt8} : (b.toList == c.toList) = (KBw.bInts b == KBw.bInts c) := by
  by_cases h : b = c
  · subst h; simp
  · have h1 : ¬ (b.toList = c.toList) := fun e => h (Array.toList_inj.mp e)
    have h2 : ¬ (KBw.bInts b = KBw.bInts c) := fun e => h (bInts_inj e)
    rw [beq_eq_false_iff_ne.mpr h1, beq_eq_false_iff_ne.mpr h2]
theorem fmod_len (n : Nat) (k : Nat) : ((n : Int)).fmod (k : Int) = ((n % k : Nat) : Int) := by
  rw [Int.fmod_eq_emod_of_nonneg _ (by omega)]; rfl
theorem below1 {bs cs : List Int} {k : Int} {x c : Array UInt8} (h1 : ((cs.length : Nat) : Int).fmod 3 = 0) (h2 : KBw.bInts x = bs.take (min cs.length bs.length)) (hc : KBw.bInts c = cs) (h3 : (x.toList == c.toList) = true)
    (h4 : (cs.length : Int) < (bs.length : Int)) : ((bs.getD ((cs.length : Nat) : Int).toNat 0).fdiv 4 == k) = belowB bs cs k := by
  rw [ints_eq, h2, hc, Nat.min_eq_left (by omega)] at h3
  have h1' := (fmod_len cs.length 3).symm.trans h1
  unfold belowB
  rw [h3, Int.toNat_natCast, Int.fdiv_eq_ediv_of_nonneg _ (by decide)]
  simp; omega
theorem below2 {bs cs : List Int} {k : Int} (h4 : ¬ (cs.length : Int) < (bs.length : Int)) : decide ((cs.length : Int) < (bs.length : Int)) = belowB bs cs k := by
  have : ¬ cs.length < bs.length := by omega
  simp [belowB, this]
theorem below3 {bs cs : List Int} {k : Int} {x c : Array UInt8} (h2 : KBw.bInts x = bs.take (min cs.length bs.length)) (hc : KBw.bInts c = cs) (h3 : (x.toList == c.toList) = false) : (x.toList == c.toList) = belowB bs cs k := by
  rw [h3]
  rw [ints_eq, h2, hc] at h3
  have : (bs.take (min cs.length bs.length)) = bs.take cs.length := by rw [List.take_eq_take_iff]; omega
  rw [this] at h3
  simp [belowB, h3]
theorem below4 {bs cs : List Int} {k : Int} (h1 : ((cs.length : Nat) : Int).fmod 3 ≠ 0) : (((cs.length : Nat) : Int).fmod 3 == 0) = belowB bs cs k := by
  have h1' : cs.length % 3 ≠ 0 := fun e => h1 ((fmod_len cs.length 3).trans (by rw [e]; rfl))
  have h2 : (((cs.length : Nat) : Int).fmod 3 == 0) = false := by simpa using h1
  rw [h2]; simp [belowB, h1']
theorem below_spec {w : World} {dp un : Nat} {fr : Option (List Env)} {gd : Option (List Code)} {Q E : Value → Shared → Prop} {s : Shared} {mean : ExcName → Option Value} {mg mb : Str → Option Value} {b c : Array UInt8} {t u v : Tok} {k : Int} {bs cs : List Int}
    (X : (hd.heap_1 w.params).In s.heap) (T : TT mean mg mb s.heap) (hd : dp < 990)
    (hb : KBw.bInts b = bs) (hc : KBw.bInts c = cs) (hbl : bs.length ≤ 100) (hcl : cs.length ≤ 100)
    (hQ : ∀ h' tk, Keep s.heap h' → Q (.bool (belowB bs cs k)) { s with heap := h', toks := tk }) :
    wpAny (model PG w) (AA dp un fr gd) (call (.ref 153) [.bytes b t, .bytes c u, .int k v]) Q E s := by
  refine' enter_pure (binds := [(Str.ofString "row", .bytes b t), (Str.ofString "head", .bytes c u), (Str.ofString "figure", .int k v)]) ?kX ?kT ?k6 ?k7 ?k8 ?k9 ?kB ?_ ?c2 ?c3 ?c4 ?c5
  k_dflt (walk_at "mine_enter")
  k_steps
  all_goals (try dsimp only)
  all_goals refine end_bool hQ (Fr.keep (by assumption)) ?_
  all_goals first
    | exact below1 (by assumption) (by assumption) hc (by assumption) (by assumption)
    | exact below2 (by assumption)
    | exact below3 (by assumption) hc (by assumption)
    | exact below4 (by assumption)
end Mine

end -- B1
theorem Mine.pad_B2 : Mine.PadG := by first | (walk1; fail "pad") | exact trivial
section -- B2
open PySem PySem.W PySem.Calls PyProof.Rows
set_option maxRecDepth 100000
set_option maxHeartbeats 8000000
namespace Mine
theorem dummy3 (w : World) (h : Heap) : (hd.heap_1 w.params).In h → PySem.Challenge.rw_nq0028_01.Holds → True := by
  k_fill
  intro _ _; trivial
theorem call_type_bytes {w : World} {A : Around} {E Q : Value → Shared → Prop} {s : Shared} {b : Array UInt8} {t : Tok} (hq : Q (.type "bytes") s) :
    wpAny (model PG w) A (call (.type "type") [.bytes b t]) Q E s := by
  obtain ⟨h, g, d, tk, os⟩ := s
  refine wpAny_call (codeAny_of_tree ?_)
  show wpAny _ _ (callAny (.type "type") ⟨[.bytes b t], []⟩) _ _ _
  simp only [callAny]
  refine wpAny_pure ⟨Code.quiet_builtin _ (by decide +kernel), codeAny_builtin entry_type_call ?_⟩
  unfold Builtin.«type.__call__»
  dsimp only
  unfold shownTypeOf
  repeat (first | wp_step)
  exact hq
local macro_rules | `(tactic| walk_at "call type:type") => `(tactic| (k_here; (with_reducible show wpAny _ _ (call (Value.type "type") [Value.bytes _ _]) _ _ _); refine call_type_bytes ?_))
section
variable {w : World} {dp un : Nat} {fr : Option (List Env)} {gd : Option (List Code)} {Q E : Value → Shared → Prop} {s : Shared} {mean : ExcName → Option Value} {mg mb : Str → Option Value}
theorem buffer_spec {b : Array UInt8} {t : Tok}
    (X : (hd.heap_1 w.params).In s.heap) (T : TT mean mg mb s.heap) (hd : dp < 990)
    (hQ : ∀ h' tk, Keep s.heap h' → Q (.bytes b t) { s with heap := h', toks := tk }) :
    wpAny (model PG w) (AA dp un fr gd) (call (.ref 90) [.bytes b t]) Q E s := by
  refine' enter_pure (binds := [(Str.ofString "data", .bytes b t)]) ?kX ?kT ?k6 ?k7 ?k8 ?k9 ?kB ?_ ?c2 ?c3 ?c4 ?c5
  k_dflt (walk_at "mine_enter")
  k_steps
  all_goals (try dsimp only)
  all_goals exact hQ _ _ (Fr.keep (by assumption))
theorem truth_spec 
    (X : (hd.heap_1 w.params).In s.heap) (T : TT mean mg mb s.heap) (hd : dp < 990)
    (hQ : ∀ h' tk, Keep s.heap h' → Q (.bool false) { s with heap := h', toks := tk }) :
    wpAny (model PG w) (AA dp un fr gd) (call (.ref 97) [.bool false]) Q E s := by
  refine' enter_pure (binds := [(Str.ofString "x", .bool false)]) ?kX ?kT ?k6 ?k7 ?k8 ?k9 ?kB ?_ ?c2 ?c3 ?c4 ?c5
  k_dflt (walk_at "mine_enter")
  k_steps
  all_goals (try dsimp only)
  all_goals exact hQ _ _ (Fr.keep (by assumption))
local macro_rules | `(tactic| walk_at "call ref") => `(tactic| (k_here; (with_reducible rename Fr _ _ _ _ => kF'); k_dflt ((first | refine' buffer_spec (Frag.In.keeps ?kX kF'.keep) (Top.keeps ?kT kF'.keep) ?kd ?_ | refine' truth_spec (Frag.In.keeps ?kX kF'.keep) (Top.keeps ?kT kF'.keep) ?kd ?_); (walk_at "mine_ctx"); intro h' tk' hk'; (walk_at "mine_kept"))))

/-- one turn's end in b2a_base64's loop -/
noncomputable def B2aPost (h₀ : Heap) (L : Addr) (m₀ : Str → Option Value) (own : List (Addr × Obj)) (l : Addr) (s₁ : Shared) (R : Int → Int → List Int → Prop) (f : Flow) (s₂ : Shared) : Prop :=
  f = .next ∧ ∃ h' tk m' its n' lb lc tl tc ns' news', s₂ = { s₁ with heap := h', toks := tk } ∧ Fr h₀ L h' m' ∧ News h₀ L h' news' ∧ (l, listOf its n') ∈ news' ∧ (∀ p ∈ own, p ∈ news') ∧ IntsAre its.toList ns' ∧
    m' (Str.ofString "leftbits") = some (.int lb tl) ∧ m' (Str.ofString "leftchar") = some (.int lc tc) ∧ (∀ z, z ≠ Str.ofString "b" → z ≠ Str.ofString "leftbits" → z ≠ Str.ofString "leftchar" → m' z = m₀ z) ∧ R lb lc ns'
theorem B2aPost.mk {h₀ h' : Heap} {L : Addr} {m₀ m' : Str → Option Value} {own news' : List (Addr × Obj)} {l : Addr} {s₁ : Shared} {R : Int → Int → List Int → Prop} {tk n' : Nat} {its : Array Value} {ns' : List Int} {lb lc : Int} {tl tc : Tok}
    (F : Fr h₀ L h' m') (N : News h₀ L h' news') (hm : (l, listOf its n') ∈ news') (ho : ∀ p ∈ own, p ∈ news') (hi : IntsAre its.toList ns') (k1 : m' (Str.ofString "leftbits") = some (.int lb tl)) (k2 : m' (Str.ofString "leftchar") = some (.int lc tc))
    (k3 : ∀ z, z ≠ Str.ofString "b" → z ≠ Str.ofString "leftbits" → z ≠ Str.ofString "leftchar" → m' z = m₀ z) (hr : R lb lc ns') : B2aPost h₀ L m₀ own l s₁ R .next { s₁ with heap := h', toks := tk } :=
  ⟨rfl, _, _, _, _, _, _, _, _, _, _, _, rfl, F, N, hm, ho, hi, k1, k2, k3, hr⟩
structure B2aS where
  lb : Int
  lc : Int
  tl : Tok
  tc : Tok
  vs : List Value
  ns : List Int
  n : Nat
/-- what holds in between -/
noncomputable def B2aJ (pre : List Int) (lb lc : Int) (ns : List Int) : Prop :=
  ns = partBy bch pre ∧ 0 ≤ lc ∧ lc < 65536 ∧ lb = 2 * ((pre.length % 3 : Nat) : Int) ∧ (pre.length % 3 = 1 → lc % 4 = left3 pre) ∧ (pre.length % 3 = 2 → lc % 16 = left3 pre)
theorem b2a_loop {A : Around} {E : Value → Shared → Prop} {s : Shared} {env : Env} {h₀ : Heap} {body : List Stmt} {Q : Flow → Shared → Prop} {b : Array UInt8} {tb t1 t2 : Tok} {bs : List Int} {m₀ : Str → Option Value} {l : Addr} 
    (hb : KBw.bInts b = bs) (hh : A.handled = none) (F : Fr h₀ env.locals s.heap m₀) (N : News h₀ env.locals s.heap [(l, listOf #[] 0)]) (k1 : m₀ (Str.ofString "leftbits") = some (.int 0 t1)) (k2 : m₀ (Str.ofString "leftchar") = some (.int 0 t2))
    (turn : ∀ (r : Nat) (lb lc : Int) (tl tc : Tok) (vs : List Value) (ns : List Int) (nn : Nat) (n : Int) t h tk own, (r = 0 ∧ lb = 0 ∨ r = 1 ∧ lb = 2 ∨ r = 2 ∧ lb = 4) → 0 ≤ n → n < 256 → 0 ≤ lc → lc < 65536 → ns.length ≤ 2 * bs.length → IntsAre vs ns → OwnOff own [l] →
      Fr h₀ env.locals h (fun y => if y = Str.ofString "b" then some (.int n t) else kstB m₀ [(Str.ofString "leftbits", .int lb tl), (Str.ofString "leftchar", .int lc tc)] y) → News h₀ env.locals h ((l, listOf vs.toArray nn) :: own) →
      wpAny (model PG w) A (execs body env) (B2aPost h₀ env.locals m₀ own l { s with heap := h, toks := tk } (fun lb' lc' ns' => lc' = (lc * 256 + n) % 65536 ∧ ((r = 0 ∧ lb' = 2 ∧ ns' = ns ++ [bch (n / 4)]) ∨ (r = 1 ∧ lb' = 4 ∧ ns' = ns ++ [bch (lc % 4 * 16 + n / 16)]) ∨
        (r = 2 ∧ lb' = 0 ∧ ns' = ns ++ [bch (lc % 16 * 4 + n / 64), bch (n % 64)])))) E { s with heap := h, toks := tk })
    (done : ∀ (r : Nat) (lb lc : Int) (tl tc : Tok) (vs : List Value) (ns : List Int) (nn : Nat) (u : Str → Option Value) h tk, (r = 0 ∧ lb = 0 ∨ r = 1 ∧ lb = 2 ∨ r = 2 ∧ lb = 4) → r = bs.length % 3 → ns = partBy bch bs → 0 ≤ lc → lc < 65536 → (r = 1 → lc % 4 = left3 bs) → (r = 2 → lc % 16 = left3 bs) → IntsAre vs ns → ns.length ≤ 2 * bs.length →
      Fr h₀ env.locals h (fun y => if y = Str.ofString "b" then u y else kstB m₀ [(Str.ofString "leftbits", .int lb tl), (Str.ofString "leftchar", .int lc tc)] y) → News h₀ env.locals h [(l, listOf vs.toArray nn)] → Q .next { s with heap := h, toks := tk }) :
    wpAny (model PG w) A (pyIter (.bytes b tb)) (fun it s₂ => LoopAtV PG w A h₀ env (Str.ofString "b") body Q E it s₂) E s := by
  refine KStb.kst_bytes (σ := B2aS) (fun c => [(l, listOf c.vs.toArray c.n)]) (fun c => [(Str.ofString "leftbits", .int c.lb c.tl), (Str.ofString "leftchar", .int c.lc c.tc)]) (fun c => IntsAre c.vs c.ns) [] (fun pre c => B2aJ pre c.lb c.lc c.ns)
    ⟨0, 0, t1, t2, [], [], 0⟩ hb rfl hh F N .nil ?_ ?_ ?_ ?_
  · intro p hp
    simp only [List.mem_cons, List.not_mem_nil, or_false] at hp
    rcases hp with rfl | rfl
    · exact k1
    · exact k2
  · exact ⟨rfl, Int.le_refl 0, (by decide : (0 : Int) < 65536), rfl, fun h => absurd h (by decide), fun h => absurd h (by decide)⟩
  · rintro ⟨lb, lc, tl, tc, vs, ns, nn⟩ pre post n t u h tk own e hlen h0 h1 hoff hf hJ F₁ N₁
    obtain ⟨j1, j2, j3, j4, j5, j6⟩ := hJ
    dsimp only at *
    subst j4
    have hpl : (partBy bch pre).length ≤ 2 * bs.length := by have := part_len bch pre; omega
    refine wpAny_mono (turn (pre.length % 3) (2 * ((pre.length % 3 : Nat) : Int)) lc tl tc vs ns nn n t h tk own (by omega) h0 h1 j2 j3 (by rw [j1]; exact hpl) hf hoff (by simpa using F₁) N₁) ?_ fun _ _ e => e
    rintro f s₂ ⟨rfl, h', tk', m', its, n', lb', lc', tl', tc', ns', news', rfl, F', N', hm, ho, hi, q1, q2, q3, hl, hr⟩
    rw [← Array.toArray_toList (xs := its)] at hm
    refine InvEndN.intro F' N' (nx := [(l, listOf its.toList.toArray n')]) ⟨⟨lb', lc', tl', tc', its.toList, ns', n'⟩, rfl, hi, ?_, ?_, ?_⟩ rfl ?_ ho
    · intro p hp
      simp only [List.mem_cons, List.not_mem_nil, or_false] at hp
      rcases hp with rfl | rfl
      · exact q1
      · exact q2
    · intro z z1 z2 _
      exact q3 z z1 (z2 _ (List.Mem.head _)) (z2 _ (List.Mem.tail _ (List.Mem.head _)))
    · show B2aJ (pre ++ [n]) lb' lc' ns'
      rcases hr with ⟨r0, rfl, rfl⟩ | ⟨r0, rfl, rfl⟩ | ⟨r0, rfl, rfl⟩
      · obtain ⟨e1, e2⟩ := part_snoc0 bch n pre r0
        refine ⟨by rw [e1, j1], by omega, by omega, ?_, fun _ => by rw [e2, hl]; omega, fun q => ?_⟩ <;> simp only [List.length_append, List.length_singleton] at * <;> omega
      · obtain ⟨e1, e2⟩ := part_snoc1 bch n pre r0
        refine ⟨by rw [e1, j1, ← j5 r0], by omega, by omega, ?_, fun q => ?_, fun _ => by rw [e2, hl]; omega⟩ <;> simp only [List.length_append, List.length_singleton] at * <;> omega
      · have e1 := part_snoc2 bch n pre r0
        refine ⟨by rw [e1, j1, ← j6 r0], by omega, by omega, ?_, fun q => ?_, fun q => ?_⟩ <;> simp only [List.length_append, List.length_singleton] at * <;> omega
    · intro p hp
      rw [List.mem_singleton.mp hp]
      exact hm
  · rintro ⟨lb, lc, tl, tc, vs, ns, nn⟩ u h tk hlen hf hJ F₁ N₁
    obtain ⟨j1, j2, j3, j4, j5, j6⟩ := hJ
    dsimp only at *
    subst j4
    exact done (bs.length % 3) (2 * ((bs.length % 3 : Nat) : Int)) lc tl tc vs ns nn u h tk (by omega) rfl j1 j2 j3 j5 j6 hf (by rw [j1]; exact part_len bch bs) (by simpa using F₁) N₁


noncomputable abbrev B64A : Array UInt8 := #[65, 66, 67, 68, 69, 70, 71, 72, 73, 74, 75, 76, 77, 78, 79, 80, 81, 82, 83, 84, 85, 86, 87, 88, 89, 90, 97, 98, 99, 100, 101, 102, 103, 104, 105, 106, 107, 108, 109, 110, 111, 112, 113, 114, 115, 116, 117, 118, 119, 120, 121, 122, 48, 49, 50, 51, 52, 53, 54, 55, 56, 57, 43, 47]
theorem b64_ints : KBw.bInts B64A = B64L := by decide +kernel
section
variable {A : Around} {value slice : PySem.Expr} {x : Int} {tt ui : Tok} 
theorem b64_item {i : Int} (h0 : 0 ≤ i) (h1 : i < 64) (h : ∀ t' k, Q (.int (bch i) t') { s with toks := k })
    (hs : subscripted slice false (.bytes B64A tt) (.int i ui) = operate [.bytes B64A tt, .int i ui] (getItem (.bytes B64A tt) (.int i ui)))
    (ht : ∀ r, letTemporaryGo value (.bytes B64A tt) r = pure ()) : wpAny (model PG w) A (subscriptTail value slice (.bytes B64A tt) (.int i ui)) Q E s :=
  KBw.item_K b64_ints (by decide) h0 (by show i < ((64 : Nat) : Int); omega) (fun t' k _ _ => h t' k) hs ht
theorem in6 (x : Int) : 0 ≤ Builtin.bitAnd x 63 ∧ Builtin.bitAnd x 63 < 64 := by rw [bitAnd_m6]; omega
theorem in2 (x : Int) : 0 ≤ Builtin.bitAnd x 3 * 2 ^ Int.toNat 4 ∧ Builtin.bitAnd x 3 * 2 ^ Int.toNat 4 < 64 := by
  rw [bitAnd_m2, show (2 : Int) ^ Int.toNat 4 = 16 from by decide]; omega
theorem in4 (x : Int) : 0 ≤ Builtin.bitAnd x 15 * 2 ^ Int.toNat 2 ∧ Builtin.bitAnd x 15 * 2 ^ Int.toNat 2 < 64 := by
  rw [bitAnd_m4, show (2 : Int) ^ Int.toNat 2 = 4 from by decide]; omega
end
theorem lc_new {lc n : Int} (h : 0 ≤ lc) (h0 : 0 ≤ n) (h1 : n < 256) : Builtin.bitAnd (Builtin.bitOr (lc * 2 ^ Int.toNat 8) n) 65535 = (lc * 256 + n) % 65536 := by
  rw [bitAnd_m16, show (2 : Int) ^ Int.toNat 8 = 256 from by decide, bitOr_low h h0 h1]
theorem fig_at (x : Int) (k : Nat) : Builtin.bitAnd (x.fdiv (2 ^ k)) 63 = x / 2 ^ k % 64 := by
  rw [bitAnd_m6, Int.fdiv_eq_ediv_of_nonneg _ (by exact Int.le_of_lt (pow_pos_of (by decide) k))]
local macro_rules | `(tactic| walk_at "subscriptTail") => `(tactic| (k_here; (first
   | refine b64_item (in6 _).1 (in6 _).2 ?_ (by with_unfolding_all rfl) (by intro _; with_unfolding_all rfl)
   | refine b64_item (in2 _).1 (in2 _).2 ?_ (by with_unfolding_all rfl) (by intro _; with_unfolding_all rfl)
   | refine b64_item (in4 _).1 (in4 _).2 ?_ (by with_unfolding_all rfl) (by intro _; with_unfolding_all rfl)); intro t9 k9; (try dsimp only)))
theorem fig0 {lc n : Int} (h : 0 ≤ lc) (h0 : 0 ≤ n) (h1 : n < 256) : Builtin.bitAnd ((Builtin.bitAnd (Builtin.bitOr (lc * 2 ^ Int.toNat 8) n) 65535).fdiv (2 ^ ((0 : Int) + 8 - 6).toNat)) 63 = n / 4 := by
  rw [lc_new h h0 h1, fig_at, show (2 : Int) ^ ((0 : Int) + 8 - 6).toNat = 4 from by decide]; omega
theorem fig1 {lc n : Int} (h : 0 ≤ lc) (h0 : 0 ≤ n) (h1 : n < 256) : Builtin.bitAnd ((Builtin.bitAnd (Builtin.bitOr (lc * 2 ^ Int.toNat 8) n) 65535).fdiv (2 ^ ((2 : Int) + 8 - 6).toNat)) 63 = lc % 4 * 16 + n / 16 := by
  rw [lc_new h h0 h1, fig_at, show (2 : Int) ^ ((2 : Int) + 8 - 6).toNat = 16 from by decide]; omega
theorem fig2 {lc n : Int} (h : 0 ≤ lc) (h0 : 0 ≤ n) (h1 : n < 256) : Builtin.bitAnd ((Builtin.bitAnd (Builtin.bitOr (lc * 2 ^ Int.toNat 8) n) 65535).fdiv (2 ^ ((4 : Int) + 8 - 6).toNat)) 63 = lc % 16 * 4 + n / 64 := by
  rw [lc_new h h0 h1, fig_at, show (2 : Int) ^ ((4 : Int) + 8 - 6).toNat = 64 from by decide]; omega
theorem fig3 {lc n : Int} (h : 0 ≤ lc) (h0 : 0 ≤ n) (h1 : n < 256) : Builtin.bitAnd ((Builtin.bitAnd (Builtin.bitOr (lc * 2 ^ Int.toNat 8) n) 65535).fdiv (2 ^ ((4 : Int) + 8 - 6 - 6).toNat)) 63 = n % 64 := by
  rw [lc_new h h0 h1, fig_at, show (2 : Int) ^ ((4 : Int) + 8 - 6 - 6).toNat = 1 from by decide]; omega
theorem flush1 {bs l : List Int} {x : Int} (h : bs.length % 3 = 1) (h1 : l = partBy bch bs) (h2 : x % 4 = left3 bs) : ((l ++ [bch (Builtin.bitAnd x 3 * 2 ^ Int.toNat 4)]) ++ [61]) ++ [61] = encBy bch bs := by
  rw [enc_part1 bch bs h, h1, bitAnd_m2, h2, show (2 : Int) ^ Int.toNat 4 = 16 from by decide]; simp
theorem flush2 {bs l : List Int} {x : Int} (h : bs.length % 3 = 2) (h1 : l = partBy bch bs) (h2 : x % 16 = left3 bs) : ((l ++ [bch (Builtin.bitAnd x 15 * 2 ^ Int.toNat 2)]) ++ [61]) = encBy bch bs := by
  rw [enc_part2 bch bs h, h1, bitAnd_m4, h2, show (2 : Int) ^ Int.toNat 2 = 4 from by decide]; simp
theorem abs2 (x : Int) : (Builtin.bitAnd x 3).natAbs < 2 ^ 64 := by rw [bitAnd_m2]; omega
theorem abs4 (x : Int) : (Builtin.bitAnd x 15).natAbs < 2 ^ 64 := by rw [bitAnd_m4]; omega
theorem make_A {A : Around} {h₀ : Heap} {L D : Addr} {m : Str → Option Value} {news : List (Addr × Obj)} {its : Array Value} {n : Nat} {ns : List Int} (F : Fr h₀ L s.heap m) (N : News h₀ L s.heap news) (hh : A.handled = none) (hl : (D, listOf its n) ∈ news) (hi : IntsAre its.toList ns) (hr : KBa.In ns) (hn : ns.length ≤ 16777216)
    (h : ∀ h' b t' k, Fr h₀ L h' m → News h₀ L h' news → KBw.bInts b = ns → Q (.bytes b t') { s with heap := h', toks := k }) : wpAny (model PG w) A (call (.type "bytes") [.ref D]) Q E s := by
  have hl' : s.heap.IsList D its.toList.toArray := by rw [Array.toArray_toList]; exact News.isList N hl
  exact KBa.make_K F N hh hl' hi hr hn fun h' t' k F' N' _ => h h' _ t' k F' N' (KBa.ints_make hr)
theorem bch_in {f : Int} (h0 : 0 ≤ f) (h1 : f < 64) : 0 ≤ bch f ∧ bch f < 256 := by
  have key : ∀ j : Fin 64, 0 ≤ B64L.getD j.1 0 ∧ B64L.getD j.1 0 < 256 := by decide +kernel
  have := key ⟨f.toNat, by omega⟩
  exact this
theorem enc_in {bs : List Int} (h : KBa.In bs) : KBa.In (encBy bch bs) := fun x hx => enc_mem (P := fun x => 0 ≤ x ∧ x < 256) (by decide) (fun f h0 h1 => bch_in h0 h1) bs h x hx
theorem bInts_in (b : Array UInt8) : KBa.In (KBw.bInts b) := fun _ h => KBw.ints_in h
local macro_rules | `(tactic| walk_at "binaryOp LShift int int") => `(tactic| (k_here; first | (with_reducible refine lshift_int_small (by decide) (by decide) (abs2 _) ?_) | (with_reducible refine lshift_int_small (by decide) (by decide) (abs4 _) ?_)))
local macro_rules | `(tactic| walk_at "call builtin:list.append") => `(tactic| (k_here; (with_reducible show wpAny _ _ (call (Value.builtin _) [Value.ref _, _]) _ _ _); k_dflt (refine' append_K ?k1 ?k2 ?k3 ?_ ?z; (case k1 => k_asm); (case k2 => k_asm); (case k3 => k_upd); (case z => ((have hL9 := IntsAre.length (by assumption)); (simp only [Array.size_push, List.size_toArray]); rw [sizeLine_eq]; omega)); k_whole); intro h' F' N'; (try k_sweep)))
local macro_rules | `(tactic| walk_at "pyIter bytes") => `(tactic| refine stopHere ?_)
theorem b2a_spec {b : Array UInt8} {t : Tok} {bs : List Int}
    (X : (hd.heap_1 w.params).In s.heap) (T : TT mean mg mb s.heap) (hd : dp < 980) (hb : KBw.bInts b = bs) (hbl : bs.length ≤ 100)
    (hQ : ∀ b t h' tk, Keep s.heap h' → KBw.bInts b = encBy bch bs → Q (.bytes b t) { s with heap := h', toks := tk }) :
    wpAny (model PG w) (AA dp un fr gd) (call (.ref 105) [.bytes b t] [(Str.ofString "newline", .bool false)]) Q E s := by
  refine' enter_pure (binds := [(Str.ofString "data", .bytes b t), (Str.ofString "newline", .bool false)]) ?kX ?kT ?k6 ?k7 ?k8 ?k9 ?kB ?_ ?c2 ?c3 ?c4 ?c5
  k_dflt (walk_at "mine_enter")
  k_steps
  unfold Stop
  (with_reducible rename Fr _ _ _ _ => kF')
  (with_reducible rename News _ _ _ _ => kN')
  with_unfolding_all refine' b2a_loop (by assumption) (by rfl) kF' kN' (by rfl) (by rfl) ?_ ?_
  all_goals (intro r9 lb9 lc9 tl9 tc9 vs9 ns9 nn9)
  all_goals first
    | (intro n9 t9 h9 tk9 own9 hr9 g1 g2 g3 g4 g5 g6 g7 F9 N9; clear kF' kN'; (rcases hr9 with ⟨e8, e9⟩ | ⟨e8, e9⟩ | ⟨e8, e9⟩) <;> subst e8 <;> subst e9)
    | (intro u9 h9 tk9 hr9 e1 e2 g3 g4 g5 g6 g7 g8 F9 N9; clear kF' kN'; (rcases hr9 with ⟨e8, e9⟩ | ⟨e8, e9⟩ | ⟨e8, e9⟩) <;> subst e8 <;> subst e9)
  k_steps
  all_goals (try dsimp only)
  · refine B2aPost.mk (by assumption) (by assumption) (by k_mem) (fun p hp => List.Mem.tail _ hp) (by simp only [Array.toList_push, List.toList_toArray]; exact IntsAre.append (by assumption) (.cons _ _ .nil)) rfl rfl (by intro z z1 z2 z3; simp only [kstB, z1, z2, z3, if_false]) ?_
    exact ⟨lc_new (by assumption) (by assumption) (by assumption), .inl ⟨trivial, rfl, by rw [fig0 (by assumption) (by assumption) (by assumption)]⟩⟩
  · refine B2aPost.mk (by assumption) (by assumption) (by k_mem) (fun p hp => List.Mem.tail _ hp) (by simp only [Array.toList_push, List.toList_toArray]; exact IntsAre.append (by assumption) (.cons _ _ .nil)) rfl rfl (by intro z z1 z2 z3; simp only [kstB, z1, z2, z3, if_false]) ?_
    exact ⟨lc_new (by assumption) (by assumption) (by assumption), .inr (.inl ⟨trivial, rfl, by rw [fig1 (by assumption) (by assumption) (by assumption)]⟩)⟩
  · refine B2aPost.mk (by assumption) (by assumption) (by k_mem) (fun p hp => List.Mem.tail _ hp) (by simp only [Array.toList_push, List.toList_toArray]; exact IntsAre.append (IntsAre.append (by assumption) (.cons _ _ .nil)) (.cons _ _ .nil)) rfl rfl (by intro z z1 z2 z3; simp only [kstB, z1, z2, z3, if_false]) ?_
    exact ⟨lc_new (by assumption) (by assumption) (by assumption), .inr (.inr ⟨trivial, rfl, by rw [fig2 (by assumption) (by assumption) (by assumption), fig3 (by assumption) (by assumption) (by assumption), List.append_assoc]; rfl⟩)⟩
  · refine make_A (by assumption) (by assumption) rfl (by k_mem) (by simp only [List.toList_toArray]; assumption) ?_ ?_ ?_
    all_goals rename _ = partBy bch bs => e1
    all_goals rename _ = bs.length % 3 => e2
    · rw [e1, ← enc_part0 bch bs (by omega), ← hb]; exact enc_in (bInts_in b)
    · omega
    · intro h' b' t' k' F' N' e'; dsimp only
      exact end_bytes hQ (Fr.keep (by assumption)) (by rw [e', e1, ← enc_part0 bch bs (by omega)])
  · refine make_A (by assumption) (by assumption) rfl (by k_mem) (by simp only [Array.toList_push, List.toList_toArray]; exact IntsAre.append (IntsAre.append (IntsAre.append (by assumption) (.cons _ _ .nil)) (.cons _ _ .nil)) (.cons _ _ .nil)) ?_ ?_ ?_
    all_goals rename _ = partBy bch bs => e1
    all_goals rename _ = bs.length % 3 => e2
    all_goals rename (_ = 1 → _) => e3
    · rw [flush1 (by omega) e1 (e3 rfl), ← hb]; exact enc_in (bInts_in b)
    · simp only [List.length_append, List.length_singleton]; omega
    · intro h' b' t' k' F' N' e'; dsimp only
      exact end_bytes hQ (Fr.keep (by assumption)) (by rw [e', flush1 (by omega) e1 (e3 rfl)])
  · refine make_A (by assumption) (by assumption) rfl (by k_mem) (by simp only [Array.toList_push, List.toList_toArray]; exact IntsAre.append (IntsAre.append (by assumption) (.cons _ _ .nil)) (.cons _ _ .nil)) ?_ ?_ ?_
    all_goals rename _ = partBy bch bs => e1
    all_goals rename _ = bs.length % 3 => e2
    all_goals rename (_ = 2 → _) => e3
    · rw [flush2 (by omega) e1 (e3 rfl), ← hb]; exact enc_in (bInts_in b)
    · simp only [List.length_append, List.length_singleton]; omega
    · intro h' b' t' k' F' N' e'; dsimp only
      exact end_bytes hQ (Fr.keep (by assumption)) (by rw [e', flush2 (by omega) e1 (e3 rfl)])
end
end Mine

end -- B2
theorem Mine.pad_B3 : Mine.PadG := by first | (walk1; fail "pad") | exact trivial
section -- B3
open PySem PySem.W PySem.Calls PyProof.Rows
set_option maxRecDepth 100000
set_option maxHeartbeats 8000000
namespace Mine
open PySem.Builtin
theorem slot_translate : Slot "bytes" "translate" "bytes.translate" :=
  .of (owner := "bytes") (n := "translate") (by rw [typeLookup_type, builtinLookup_eq_fast]; kernel_rfl) (by decide +kernel) (by decide +kernel) (by decide +kernel)
    (by first | exact .inl (by decide +kernel) | exact .inr (by decide +kernel)) (by rw [isSubtype_type]; kernel_rfl)
theorem type_translate : typeOf (.builtin "bytes.translate") = pure (.type "method_descriptor") := by show builtinType _ = _; rw [builtinType_eq_fast]; kernel_rfl
theorem entry_translate : entryFor table "bytes.translate" = some Builtin.«bytes.translate» := entryFor_of_tree (by kernel_rfl)
theorem args_translate (a b : Value) : argsOk "bytes.translate" ⟨[a, b], []⟩ := by
  unfold argsOk; rw [signature?_of (id := "bytes.translate") (n := ['e', 't', 'a', 'l', 's', 'n', 'a', 'r', 't']) (o := ['s', 'e', 't', 'y', 'b']) (by kernel_rfl) FB.owner_bytes]; kernel_rfl
theorem check_mk (a b : Value) : checkBuiltinCall "bytes.maketrans" ⟨[a, b], []⟩ = pure () := by kernel_rfl
theorem entry_mk : entryFor table "bytes.maketrans" = some Builtin.«bytes.maketrans» := entryFor_of_tree (by kernel_rfl)
theorem plain_mk : plainId "bytes.maketrans" = true := by decide +kernel
noncomputable def idTab : Array UInt8 := (Array.range 256).map (·.toUInt8)
noncomputable def mkTab (x y : UInt8) : Array UInt8 := (idTab.setIfInBounds 43 x).setIfInBounds 47 y
noncomputable def trBy (tb b : Array UInt8) : Array UInt8 := b.map fun c => tb.getD c.toNat c
/-- the signs 43 and 47 turned to x and y -/
noncomputable def tr (x y n : Int) : Int := if n = 47 then y else if n = 43 then x else n
theorem idTab_get (c : UInt8) : idTab.getD c.toNat c = c := by
  have h := c.toNat_lt
  have h' : c.toNat < 256 := h
  simp [idTab, Array.getD_eq_getD_getElem?, h']
theorem idTab_size : idTab.size = 256 := by simp [idTab]
theorem mkTab_size (x y : UInt8) : (mkTab x y).size = 256 := by simp [mkTab, idTab_size]
theorem mkTab_get (x y c : UInt8) : (mkTab x y).getD c.toNat c = if c.toNat = 47 then y else if c.toNat = 43 then x else c := by
  have hi := idTab_get c
  have hlt : c.toNat < idTab.size := by rw [idTab_size]; exact c.toNat_lt
  unfold mkTab
  rw [Array.getD_eq_getD_getElem?, Array.getElem?_setIfInBounds, Array.getElem?_setIfInBounds] at *
  by_cases h1 : c.toNat = 47
  · simp [h1, idTab_size]
  · by_cases h2 : c.toNat = 43
    · simp [h1, h2, idTab_size]
    · rw [if_neg (fun e => h1 e.symm), if_neg (fun e => h2 e.symm), hi, if_neg h1, if_neg h2]
theorem bInts_tr (x y : UInt8) (b : Array UInt8) : KBw.bInts (trBy (mkTab x y) b) = (KBw.bInts b).map (tr (x.toNat : Int) (y.toNat : Int)) := by
  unfold KBw.bInts trBy
  rw [Array.toList_map, List.map_map, List.map_map]
  refine List.map_congr_left fun c _ => ?_
  show (((mkTab x y).getD c.toNat c).toNat : Int) = tr _ _ (c.toNat : Int)
  rw [mkTab_get]
  unfold tr
  by_cases h1 : c.toNat = 47
  · simp [h1]
  · by_cases h2 : c.toNat = 43
    · simp [h2]
    · have h1' : ¬ ((c.toNat : Int) = 47) := by omega
      have h2' : ¬ ((c.toNat : Int) = 43) := by omega
      simp [h1, h2, h1', h2']
theorem enc_tr (i j : Int) (bs : List Int) : (encBy bch bs).map (tr i j) = encBy (fun f => tr i j (bch f)) bs := map_enc (tr i j) bch (by unfold tr; simp) bs
section
variable {w : World} {dp un : Nat} {fr : Option (List Env)} {gd : Option (List Code)} {Q E : Value → Shared → Prop} {s : Shared} {mean : ExcName → Option Value} {mg mb : Str → Option Value} {A : Around} {b tb : Array UInt8} {t u : Tok}
theorem get_translate {M : Model} {Q : Value × List Value → Shared → Prop} {pl : Sem Bool} (h : Q (.builtin "bytes.translate", [.bytes b t]) s) : wpAny M A (getMethod (.bytes b t) "translate" pl) Q E s := by
  with_reducible exact KBd.method_of (.bytes b t) (typeIs_bytes _ _ _) slot_translate type_translate KBd.noRef h
theorem meets_translate (h256 : tb.size = 256) :
    Meets («bytes.translate» ⟨[.bytes b t, .bytes tb u], []⟩) (fun _ R s => b.size ≤ sizeLine ∧ ∀ t' k, R (.ok (.ret (.bytes (trBy tb b) t'))) { s with toks := k }) := by
  refine .of_wp fun prog w A R s hS => ?_
  obtain ⟨hsz, h⟩ := hS
  unfold «bytes.translate» Bytes.translateM
  dsimp only
  refine wpAny_ite (KBy.ite_no (by simp) ?_)
  refine wpAny_ite (KBy.ite_no (by simp) ?_)
  refine wpAny_ite (KBy.ite_no (show ¬ ((Value.bytes tb u == Value.none) = true) from Bool.false_ne_true) ?_)
  refine wpAny_bind (wpAny_of_eq KBd.like_eq ?_)
  refine wpAny_ite (KBy.ite_no (by simp [h256]) ?_)
  refine wpAny_bind (wpAny_pure ?_)
  show wpAny _ _ (pure #[] >>= fun delete => _) _ _ _
  refine wpAny_bind (wpAny_pure ?_)
  refine wpAny_bind (wpAny_of_eq (a := b) rfl ?_)
  dsimp only
  have e : (Array.map (fun c => tb.getD c.toNat c) (Array.filter (fun x => !(#[] : Array UInt8).contains x) b)) = trBy tb b := by
    unfold trBy; congr 1; simp
  rw [e]
  refine wpAny_ite ?_
  split
  · rename_i q
    have q' : trBy tb b = b := eq_of_beq q
    refine wpAny_bind (wpAny_rule ?_)
    refine wpAny_bind (wpAny_of_eq (a := .bytes b t) rfl (wpAny_pure ⟨_, rfl, ?_⟩))
    have := h t s.toks
    rw [q'] at this
    exact this
  · refine wpAny_bind (m := mkBytes (trBy tb b)) (wpAny_mkBytes (wpAny_pure ⟨_, rfl, h _ _⟩) ?_)
    simpa [trBy] using hsz
theorem maketrans_K {x y : UInt8} {t u : Tok} (h : ∀ t' k, Q (.bytes (mkTab x y) t') { s with toks := k }) : wpAny (model PG w) A (call (.builtin "bytes.maketrans") [.bytes #[43, 47] t, .bytes #[x, y] u]) Q E s := by
  refine wpAny_call (codeAny_of_tree ?_)
  show wpAny _ A.in1 (do checkBuiltinCall "bytes.maketrans" ⟨[.bytes #[43, 47] t, .bytes #[x, y] u], []⟩; again (.builtin "bytes.maketrans" ⟨[.bytes #[43, 47] t, .bytes #[x, y] u], []⟩)) _ _ s
  refine wpAny_bind (wpAny_of_eq (check_mk _ _) (wpAny_pure ⟨plainId_quiet plain_mk _, codeAny_builtin entry_mk ?_⟩))
  rw [Around.under_plainId plain_mk _]
  unfold «bytes.maketrans» Bytes.maketransM
  dsimp only
  refine wpAny_bind (wpAny_of_eq (a := ()) rfl ?_)
  refine wpAny_bind (wpAny_of_eq (a := ()) rfl ?_)
  refine wpAny_bind (wpAny_of_eq KBd.like_eq ?_)
  refine wpAny_bind (wpAny_of_eq KBd.like_eq ?_)
  refine wpAny_ite (KBy.ite_no (by simp) ?_)
  refine wpAny_bind (wpAny_mkBytes (wpAny_pure (h _ _)) ?_)
  show (mkTab x y).size ≤ _
  rw [mkTab_size]; decide
end
end Mine

end -- B3
theorem Mine.pad_B4 : Mine.PadG := by first | (walk1; fail "pad") | exact trivial
section -- B4
open PySem PySem.W PySem.Calls PyProof.Rows
set_option maxRecDepth 100000
set_option maxHeartbeats 8000000
namespace Mine
theorem dummy4 (w : World) (h : Heap) : (hd.heap_1 w.params).In h → PySem.Challenge.rw_nq0028_01.Holds → True := by
  k_fill
  intro _ _; trivial
section
variable {w : World} {dp un : Nat} {fr : Option (List Env)} {gd : Option (List Code)} {Q E : Value → Shared → Prop} {s : Shared} {mean : ExcName → Option Value} {mg mb : Str → Option Value} {A : Around} {b : Array UInt8} {t u : Tok}
theorem meta_bytes : typeOf (.type "bytes") = pure (.type "type") := by first | rfl | kernel_rfl
theorem stub_bytes : Manifest.isStub "bytes" = false := by decide +kernel
theorem find_mk (P : Params) : findCls (hd.heap_1 P) (.type "bytes") (.type "type") (PySem.Str.ofString "maketrans") = some (.val (.builtin "bytes.maketrans")) := by k_is
theorem get_maketrans {h₀ : Heap} {L : Addr} {m : Str → Option Value} {pl : Sem Bool} {Q : Value × List Value → Shared → Prop} (F : Fr h₀ L s.heap m) (X₀ : (hd.heap_1 w.params).In h₀)
    (h : Q (.builtin "bytes.maketrans", []) { s with toks := s.toks + 1 }) : wpAny (model PG w) A (getMethod (.type "bytes") (PySem.Str.ofString "maketrans") pl) Q E s := by
  have hh : handedIn (.builtin "bytes.maketrans") = true := by decide +kernel
  have e := find_mk w.params
  with_reducible exact method_type F X₀ meta_bytes stub_bytes e hh h
theorem trans_K {x y : UInt8} {bs : List Int} (hb : KBw.bInts b = bs) (hbl : bs.length ≤ 400) (h : ∀ b' t' k, KBw.bInts b' = bs.map (tr (x.toNat : Int) (y.toNat : Int)) → Q (.bytes b' t') { s with toks := k }) :
    wpAny (model PG w) A (call (.builtin "bytes.translate") [.bytes b t, .bytes (mkTab x y) u]) Q E s :=
  call_meets slot_translate (typeIs_bytes _ _ _) entry_translate (args_translate _ _) (meets_translate (mkTab_size x y)) ⟨by rw [← KBw.ints_length, hb, sizeLine_eq]; omega, fun t' k => h _ t' k (by rw [bInts_tr, hb])⟩
local macro_rules | `(tactic| walk_at "getMethod bytes") => `(tactic| (k_here; (with_reducible refine get_translate ?_)))
local macro_rules | `(tactic| walk_at "getMethod type:bytes") => `(tactic| (k_here; (with_reducible refine' get_maketrans ?F ?X ?_); (case F => k_asm); (case X => k_asm)))
local macro_rules | `(tactic| walk_at "call builtin:bytes.maketrans") => `(tactic| (k_here; refine maketrans_K ?_; intro t9 k9; (try dsimp only)))
local macro_rules | `(tactic| walk_at "call builtin:bytes.translate") => `(tactic| (k_here; refine trans_K (by assumption) (Nat.le_trans (enc_len _ _) (by omega)) ?_; intro b9 t9 k9 e9; (try dsimp only)))
local macro_rules | `(tactic| walk_at "call builtin:repr") => `(tactic| (exfalso; (rename (_ ≠ (2 : Int)) => hne9); exact hne9 rfl))
local macro_rules | `(tactic| walk_at "call ref") => `(tactic| (k_here; (with_reducible rename Fr _ _ _ _ => kF'); (simp only [keywordEach, backToKw, List.map_cons, List.map_nil]); k_dflt (refine' b2a_spec (Frag.In.keeps ?kX kF'.keep) (Top.keeps ?kT kF'.keep) ?kd (by assumption) (by assumption) ?_; (walk_at "mine_ctx"); intro b' t' h' tk' hk' e'; (walk_at "mine_kept"))))
theorem b64_alt {x y : UInt8} {i j : Int} {bs : List Int}
    (X : (hd.heap_1 w.params).In s.heap) (T : TT mean mg mb s.heap) (hd : dp < 970) (hb : KBw.bInts b = bs) (hbl : bs.length ≤ 100) (hc : KBw.bInts #[x, y] = [i, j])
    (hQ : ∀ b t h' tk, Keep s.heap h' → KBw.bInts b = encBy (fun f => tr i j (bch f)) bs → Q (.bytes b t) { s with heap := h', toks := tk }) :
    wpAny (model PG w) (AA dp un fr gd) (call (.ref 113) [.bytes b t, .bytes #[x, y] u]) Q E s := by
  refine' enter_pure (binds := [(Str.ofString "s", .bytes b t), (Str.ofString "altchars", .bytes #[x, y] u)]) ?kX ?kT ?k6 ?k7 ?k8 ?k9 ?kB ?_ ?c2 ?c3 ?c4 ?c5
  k_dflt (walk_at "mine_enter")
  k_steps
  all_goals (try dsimp only)
  exact hQ _ _ _ _ (Fr.keep (by assumption)) (by rename KBw.bInts _ = List.map _ _ => e9; rw [e9]; simp only [KBw.bInts, List.map_cons, List.map_nil, List.cons.injEq, and_true] at hc; rw [hc.1, hc.2]; exact enc_tr i j bs)

/-- the default: no other signs -/
theorem b64_std {bs : List Int}
    (X : (hd.heap_1 w.params).In s.heap) (T : TT mean mg mb s.heap) (hd : dp < 970) (hb : KBw.bInts b = bs) (hbl : bs.length ≤ 100)
    (hQ : ∀ b t h' tk, Keep s.heap h' → KBw.bInts b = encBy bch bs → Q (.bytes b t) { s with heap := h', toks := tk }) :
    wpAny (model PG w) (AA dp un fr gd) (call (.ref 113) [.bytes b t]) Q E s := by
  refine' enter_pure (binds := [(Str.ofString "s", .bytes b t), (Str.ofString "altchars", .none)]) ?kX ?kT ?k6 ?k7 ?k8 ?k9 ?kB ?_ ?c2 ?c3 ?c4 ?c5
  k_dflt (walk_at "mine_enter")
  k_steps
  all_goals (try dsimp only)
  all_goals exact hQ _ _ _ _ (Fr.keep (by assumption)) (by assumption)
local macro_rules | `(tactic| walk_at "call ref") => `(tactic| (k_here; (with_reducible rename Fr _ _ _ _ => kF'); k_dflt (refine' b64_std (Frag.In.keeps ?kX kF'.keep) (Top.keeps ?kT kF'.keep) ?kd (by assumption) (by assumption) ?_; (walk_at "mine_ctx"); intro b' t' h' tk' hk' e'; (walk_at "mine_kept"))))
theorem standard_spec {bs : List Int}
    (X : (hd.heap_1 w.params).In s.heap) (T : TT mean mg mb s.heap) (hd : dp < 960) (hb : KBw.bInts b = bs) (hbl : bs.length ≤ 100)
    (hQ : ∀ b t h' tk, Keep s.heap h' → KBw.bInts b = encBy bch bs → Q (.bytes b t) { s with heap := h', toks := tk }) :
    wpAny (model PG w) (AA dp un fr gd) (call (.ref 120) [.bytes b t]) Q E s := by
  refine' enter_pure (binds := [(Str.ofString "s", .bytes b t)]) ?kX ?kT ?k6 ?k7 ?k8 ?k9 ?kB ?_ ?c2 ?c3 ?c4 ?c5
  k_dflt (walk_at "mine_enter")
  k_steps
  all_goals (try dsimp only)
  all_goals exact hQ _ _ _ _ (Fr.keep (by assumption)) (by assumption)
theorem tab_safe : #[0, 1, 2, 3, 4, 5, 6, 7, 8, 9, 10, 11, 12, 13, 14, 15, 16, 17, 18, 19, 20, 21, 22, 23, 24, 25, 26, 27, 28, 29, 30, 31, 32, 33, 34, 35, 36, 37, 38, 39, 40, 41, 42, 45, 44, 45, 46, 95, 48, 49, 50, 51, 52, 53, 54, 55, 56, 57, 58, 59, 60, 61, 62, 63, 64, 65, 66, 67, 68, 69, 70, 71, 72, 73, 74, 75, 76, 77, 78, 79, 80, 81, 82, 83, 84, 85, 86, 87, 88, 89, 90, 91, 92, 93, 94, 95, 96, 97, 98, 99, 100, 101, 102, 103, 104, 105, 106, 107, 108, 109, 110, 111, 112, 113, 114, 115, 116, 117, 118, 119, 120, 121, 122, 123, 124, 125, 126, 127, 128, 129, 130, 131, 132, 133, 134, 135, 136, 137, 138, 139, 140, 141, 142, 143, 144, 145, 146, 147, 148, 149, 150, 151, 152, 153, 154, 155, 156, 157, 158, 159, 160, 161, 162, 163, 164, 165, 166, 167, 168, 169, 170, 171, 172, 173, 174, 175, 176, 177, 178, 179, 180, 181, 182, 183, 184, 185, 186, 187, 188, 189, 190, 191, 192, 193, 194, 195, 196, 197, 198, 199, 200, 201, 202, 203, 204, 205, 206, 207, 208, 209, 210, 211, 212, 213, 214, 215, 216, 217, 218, 219, 220, 221, 222, 223, 224, 225, 226, 227, 228, 229, 230, 231, 232, 233, 234, 235, 236, 237, 238, 239, 240, 241, 242, 243, 244, 245, 246, 247, 248, 249, 250, 251, 252, 253, 254, 255] = mkTab 45 95 := by
  have e1 : (mkTab 45 95).toList = (((List.range 256).map (·.toUInt8)).set 43 45).set 47 95 := by simp [mkTab, idTab]
  apply Array.toList_inj.mp
  rw [e1]
  decide +kernel
theorem trans_safe {bs : List Int} (hb : KBw.bInts b = bs) (hbl : bs.length ≤ 400) (h : ∀ b' t' k, KBw.bInts b' = bs.map (tr 45 95) → Q (.bytes b' t') { s with toks := k }) :
    wpAny (model PG w) A (call (.builtin "bytes.translate") [.bytes b t, .bytes #[0, 1, 2, 3, 4, 5, 6, 7, 8, 9, 10, 11, 12, 13, 14, 15, 16, 17, 18, 19, 20, 21, 22, 23, 24, 25, 26, 27, 28, 29, 30, 31, 32, 33, 34, 35, 36, 37, 38, 39, 40, 41, 42, 45, 44, 45, 46, 95, 48, 49, 50, 51, 52, 53, 54, 55, 56, 57, 58, 59, 60, 61, 62, 63, 64, 65, 66, 67, 68, 69, 70, 71, 72, 73, 74, 75, 76, 77, 78, 79, 80, 81, 82, 83, 84, 85, 86, 87, 88, 89, 90, 91, 92, 93, 94, 95, 96, 97, 98, 99, 100, 101, 102, 103, 104, 105, 106, 107, 108, 109, 110, 111, 112, 113, 114, 115, 116, 117, 118, 119, 120, 121, 122, 123, 124, 125, 126, 127, 128, 129, 130, 131, 132, 133, 134, 135, 136, 137, 138, 139, 140, 141, 142, 143, 144, 145, 146, 147, 148, 149, 150, 151, 152, 153, 154, 155, 156, 157, 158, 159, 160, 161, 162, 163, 164, 165, 166, 167, 168, 169, 170, 171, 172, 173, 174, 175, 176, 177, 178, 179, 180, 181, 182, 183, 184, 185, 186, 187, 188, 189, 190, 191, 192, 193, 194, 195, 196, 197, 198, 199, 200, 201, 202, 203, 204, 205, 206, 207, 208, 209, 210, 211, 212, 213, 214, 215, 216, 217, 218, 219, 220, 221, 222, 223, 224, 225, 226, 227, 228, 229, 230, 231, 232, 233, 234, 235, 236, 237, 238, 239, 240, 241, 242, 243, 244, 245, 246, 247, 248, 249, 250, 251, 252, 253, 254, 255] u]) Q E s := by
  rw [tab_safe]; exact trans_K hb hbl h
local macro_rules | `(tactic| walk_at "call builtin:bytes.translate") => `(tactic| (k_here; refine trans_safe (by assumption) (Nat.le_trans (enc_len _ _) (by omega)) ?_; intro b9 t9 k9 e9; (try dsimp only)))
theorem urlsafe_spec {bs : List Int}
    (X : (hd.heap_1 w.params).In s.heap) (T : TT mean mg mb s.heap) (hd : dp < 960) (hb : KBw.bInts b = bs) (hbl : bs.length ≤ 100)
    (hQ : ∀ b t h' tk, Keep s.heap h' → KBw.bInts b = encBy (fun f => tr 45 95 (bch f)) bs → Q (.bytes b t) { s with heap := h', toks := tk }) :
    wpAny (model PG w) (AA dp un fr gd) (call (.ref 127) [.bytes b t]) Q E s := by
  refine' enter_pure (binds := [(Str.ofString "s", .bytes b t)]) ?kX ?kT ?k6 ?k7 ?k8 ?k9 ?kB ?_ ?c2 ?c3 ?c4 ?c5
  k_dflt (walk_at "mine_enter")
  k_steps
  all_goals (try dsimp only)
  exact hQ _ _ _ _ (Fr.keep (by assumption)) (by rename KBw.bInts _ = List.map _ _ => e9; rw [e9]; exact enc_tr 45 95 bs)
end
end Mine

end -- B4
theorem Mine.pad_B5 : Mine.PadG := by first | (walk1; fail "pad") | exact trivial
section -- B5
open PySem PySem.W PySem.Calls PyProof.Rows
set_option maxRecDepth 100000
set_option maxHeartbeats 8000000
namespace Mine
open PySem.Builtin
theorem run_loop {f : Nat → (Nat × Array Nat × _codecs.Faults) → Sem (ForInStep (Nat × Array Nat × _codecs.Faults))} (b : Array UInt8) (hz : b.size ≤ sizeLine)
    (hf : ∀ x p out, p < b.size → out.size ≤ sizeLine → f x (p, out, {}) = pure (.yield (p + 1, out ++ #[(b.getD p 0).toNat], {}))) :
    ∀ k p, p + k = b.size → forIn (List.range' p k 1) (p, ((b.toList.take p).map (·.toNat)).toArray, ({} : _codecs.Faults)) f = pure (b.size, (b.toList.map (·.toNat)).toArray, {}) := by
  intro k
  induction k with
  | zero =>
    intro p hp
    have : p = b.size := by omega
    subst this
    simp [List.take_of_length_le]
  | succ k ih =>
    intro p hp
    rw [List.range'_succ, List.forIn_cons, hf p p _ (by omega) (by simp; omega)]
    show (forIn (List.range' (p + 1) k 1) _ f) = _
    rw [← ih (p + 1) (by omega)]
    congr 2
    have hlt : p < b.toList.length := by simp; omega
    rw [List.take_add_one, List.getElem?_eq_getElem hlt]
    simp [show p < b.size by omega]
theorem run_all {f : Nat → (Nat × Array Nat × _codecs.Faults) → Sem (ForInStep (Nat × Array Nat × _codecs.Faults))} (b : Array UInt8) (hz : b.size ≤ sizeLine)
    (hf : ∀ x p out, p < b.size → out.size ≤ sizeLine → f x (p, out, {}) = pure (.yield (p + 1, out ++ #[(b.getD p 0).toNat], {}))) :
    (forIn (List.range' 0 b.size 1) (0, #[], ({} : _codecs.Faults)) f >>= fun s => pure (s.2.1, s.1)) = (pure ((b.toList.map (·.toNat)).toArray, b.size) : Sem (Array Nat × Nat)) := by
  have key := run_loop b hz hf b.size 0 (by omega)
  simp only [List.take_zero, List.map_nil] at key
  rw [key]; rfl
theorem ascii_run (id : String) (b : Array UInt8) (h : ∀ i, (b.getD i 0).toNat < 128) (hz : b.size ≤ sizeLine) :
    _codecs.runDecoder id _codecs.asciiDecoder none true b 0 [] = pure ((b.toList.map (·.toNat)).toArray, b.size) := by
  unfold _codecs.runDecoder
  dsimp only
  rw [Std.Legacy.Range.forIn_eq_forIn_range']
  have e : [:b.size].size = b.size := by simp [Std.Legacy.Range.size]
  rw [e]
  refine run_all b hz ?_
  intro x p out h1 h2
  dsimp only
  rw [if_neg (by omega), if_neg (by omega)]
  have e : _codecs.asciiDecoder.find true b p = .text [(b.getD p 0).toNat] (p + 1) := by
    show (if (b.getD p 0).toNat < 128 then _ else _) = _
    rw [if_pos (h p)]; rfl
  rw [e]
/-- a text by its codes -/
noncomputable def strOf (ks : List Int) : Str := ⟨(ks.map Int.toNat).toArray⟩
theorem cps_of (b : Array UInt8) : (b.toList.map (·.toNat)).toArray = (strOf (KBw.bInts b)).cps := by
  unfold strOf KBw.bInts
  simp [List.map_map, Function.comp_def]
theorem low_of {b : Array UInt8} (h : ∀ k ∈ KBw.bInts b, k < 128) (i : Nat) : (b.getD i 0).toNat < 128 := by
  rw [Array.getD_eq_getD_getElem?]
  cases e : b[i]? with
  | none => simp
  | some c =>
    have := h (c.toNat : Int) (List.mem_map.mpr ⟨c, Array.mem_toList_iff.mpr (Array.mem_of_getElem? e), rfl⟩)
    simp only [Option.getD_some]; omega
theorem args_decode (a b : Value) : argsOk "bytes.decode" ⟨[a, b], []⟩ := by
  unfold argsOk; rw [signature?_of (id := "bytes.decode") (n := ['e', 'd', 'o', 'c', 'e', 'd']) (o := ['s', 'e', 't', 'y', 'b']) (by kernel_rfl) FB.owner_bytes]; kernel_rfl
section
variable {b : Array UInt8} {t u : Tok} {x : Str} {n : Nat}
theorem road_ascii {id : String} : _codecs.decodeRoad id b (PySem.Str.ofString "ascii") none [] = (_codecs.runDecoder id _codecs.asciiDecoder none true b 0 [] >>= fun r => mkStr ⟨r.1⟩) := by kernel_rfl
theorem meets_text {t1 t2 : Tok} {d : PySem.Str} (hd : ∀ id, _codecs.runDecoder id _codecs.asciiDecoder none true b 0 [] = pure (x.cps, n)) :
    Meets («_codecs.decode.text» ⟨[.bytes b t, .str (PySem.Str.ofString "ascii") t1, .none, .str d t2], []⟩) (fun _ R s => x.length ≤ sizeLine ∧ R (.ok (.ret (.str x s.toks))) { s with toks := s.toks + 1 }) := by
  refine .of_wp fun prog w A R s hS => ?_
  obtain ⟨hsz, h⟩ := hS
  show wpAny _ _ (Bytes.bytesLike _ (.bytes b t) >>= fun r => _) _ _ s
  refine wpAny_bind (wpAny_of_eq KBd.like_eq ?_)
  refine wpAny_bind (wpAny_of_eq KBd.held_eq ?_)
  show wpAny _ _ (_codecs.decodeRoad _ b (PySem.Str.ofString "ascii") none [] >>= fun v => _) _ _ s
  rw [road_ascii, hd]
  refine wpAny_bind (wpAny_bind (wpAny_pure ?_))
  exact wpAny_mkStr (wpAny_pure ⟨_, rfl, h⟩) hsz
theorem entry_eq {c : UInt8} {cs : List UInt8} : «bytes.decode» ⟨[.bytes (c :: cs).toArray t, .str (PySem.Str.ofString "ascii") u], []⟩ = (mkStr (PySem.Str.ofString "utf-8") >>= fun _ => mkStr (PySem.Str.ofString "ascii") >>= fun e => mkStr (PySem.Str.ofString "bytes.decode") >>= fun d =>
    call (.builtin "_codecs.decode.text") [.bytes (c :: cs).toArray t, e, .none, d] >>= fun v => ret v) := by kernel_rfl
theorem entry_nil : «bytes.decode» ⟨[.bytes #[] t, .str (PySem.Str.ofString "ascii") u], []⟩ = (rule "bytes.decode.empty" >>= fun _ => retStr Str.empty) := by kernel_rfl
theorem meets_decode {c : UInt8} {cs : List UInt8} (hd : ∀ id, _codecs.runDecoder id _codecs.asciiDecoder none true (c :: cs).toArray 0 [] = pure (x.cps, n)) :
    Meets («bytes.decode» ⟨[.bytes (c :: cs).toArray t, .str (PySem.Str.ofString "ascii") u], []⟩) (fun _ R s => x.length ≤ sizeLine ∧ ∀ t' k, R (.ok (.ret (.str x t'))) { s with toks := k }) := by
  refine .of_wp fun prog w A R s hS => ?_
  obtain ⟨hsz, h⟩ := hS
  rw [entry_eq]
  refine wpAny_bind (wpAny_mkStr ?_ (by decide))
  refine wpAny_bind (wpAny_mkStr ?_ (by decide))
  refine wpAny_bind (wpAny_mkStr ?_ (by decide))
  exact wpAny_bind (call_function_meets KBd.kind_text KBd.plain_text KBd.entry_text (KBd.args_text _ _ _ _) (meets_text hd) ⟨hsz, wpAny_pure ⟨_, rfl, h _ _⟩⟩)
theorem meets_decode0 : Meets («bytes.decode» ⟨[.bytes #[] t, .str (PySem.Str.ofString "ascii") u], []⟩) (fun _ R s => ∀ t' k, R (.ok (.ret (.str Str.empty t'))) { s with toks := k }) := by
  refine .of_wp fun prog w A R s h => ?_
  rw [entry_nil]
  refine wpAny_bind (wpAny_rule ?_)
  unfold retStr
  refine wpAny_bind (wpAny_mkStr (wpAny_pure ⟨_, rfl, h _ _⟩) (by decide))
theorem decode_K {w : World} {A : Around} {Q E : Value → Shared → Prop} {s : Shared} {ks : List Int} (hb : KBw.bInts b = ks) (hl : ks.length ≤ 1000) (h128 : ∀ k ∈ ks, k < 128) (h : ∀ t' k, Q (.str (strOf ks) t') { s with toks := k }) :
    wpAny (model PG w) A (call (.builtin "bytes.decode") [.bytes b t, .str (PySem.Str.ofString "ascii") u]) Q E s := by
  subst hb
  have hz : b.size ≤ sizeLine := by rw [← KBw.ints_length, sizeLine_eq]; omega
  have run : ∀ id, _codecs.runDecoder id _codecs.asciiDecoder none true b 0 [] = pure ((strOf (KBw.bInts b)).cps, b.size) := fun id => by rw [ascii_run id b (low_of h128) hz, cps_of]
  have hsz : (strOf (KBw.bInts b)).length ≤ sizeLine := by
    show ((KBw.bInts b).map Int.toNat).toArray.size ≤ _
    rw [List.size_toArray, List.length_map, sizeLine_eq]; omega
  obtain ⟨l⟩ := b
  cases l with
  | nil => exact call_meets FB.slot_bytes_decode (typeIs_bytes _ _ _) FB.entry_bytes_decode (args_decode _ _) meets_decode0 (fun t' k => h t' k)
  | cons c cs => exact call_meets FB.slot_bytes_decode (typeIs_bytes _ _ _) FB.entry_bytes_decode (args_decode _ _) (meets_decode run) ⟨hsz, h⟩
end
end Mine

end -- B5
theorem Mine.pad_B6 : Mine.PadG := by first | (walk1; fail "pad") | exact trivial
section -- B6
open PySem PySem.W PySem.Calls PyProof.Rows
set_option maxRecDepth 100000
set_option maxHeartbeats 8000000
namespace Mine
theorem dummy6 (w : World) (h : Heap) : (hd.heap_1 w.params).In h → PySem.Challenge.rw_nq0028_01.Holds → True := by
  k_fill
  intro _ _; trivial
/-- the signs of the four readers -/
noncomputable def sg (how : Int) (f : Int) : Int := if how = 0 then tr 46 47 (bch f) else if how = 1 then tr 47 46 (bch f) else if how = 2 then tr 45 95 (bch f) else bch f
noncomputable def spell (how : Int) (ks : List Int) : Str := strOf (encBy (sg how) ks)
theorem bch_low {f : Int} (h0 : 0 ≤ f) (h1 : f < 64) : bch f < 128 := by
  have key : ∀ j : Fin 64, B64L.getD j.1 0 < 128 := by decide +kernel
  exact key ⟨f.toNat, by omega⟩
theorem low_std {bs : List Int} (hb : KBa.In bs) : ∀ k ∈ encBy bch bs, k < 128 := fun x hx => enc_mem (P := fun x => x < 128) (by decide) (fun f h0 h1 => bch_low h0 h1) bs hb x hx
theorem low_tr {bs : List Int} {i j : Int} (hi : i < 128) (hj : j < 128) (hb : KBa.In bs) : ∀ k ∈ encBy (fun f => tr i j (bch f)) bs, k < 128 :=
  fun x hx => enc_mem (P := fun x => x < 128) (by decide) (fun f h0 h1 => by have := bch_low h0 h1; unfold tr; split <;> (try split) <;> assumption) bs hb x hx
section
variable {w : World} {dp un : Nat} {fr : Option (List Env)} {gd : Option (List Code)} {Q E : Value → Shared → Prop} {s : Shared} {mean : ExcName → Option Value} {mg mb : Str → Option Value} {A : Around} {b : Array UInt8} {t u : Tok}
local macro_rules | `(tactic| walk_at "call builtin:bytes.decode") => `(tactic| (k_here; (first | refine decode_K (by assumption) (Nat.le_trans (enc_len _ _) (by omega)) (low_tr (by decide) (by decide) (by assumption)) ?_ | refine decode_K (by assumption) (Nat.le_trans (enc_len _ _) (by omega)) (low_std (by assumption)) ?_); intro t9 k9; (try dsimp only)))
local macro_rules | `(tactic| walk_at "call ref") => `(tactic| (k_here; (with_reducible rename Fr _ _ _ _ => kF'); k_dflt ((first | refine' b64_alt (i := 46) (j := 47) (Frag.In.keeps ?kX kF'.keep) (Top.keeps ?kT kF'.keep) ?kd ?kb ?kl rfl ?_ | refine' b64_alt (i := 47) (j := 46) (Frag.In.keeps ?kX kF'.keep) (Top.keeps ?kT kF'.keep) ?kd ?kb ?kl rfl ?_ | refine' standard_spec (Frag.In.keeps ?kX kF'.keep) (Top.keeps ?kT kF'.keep) ?kd ?kb ?kl ?_ | refine' urlsafe_spec (Frag.In.keeps ?kX kF'.keep) (Top.keeps ?kT kF'.keep) ?kd ?kb ?kl ?_); (case kb => assumption); (case kl => assumption); (walk_at "mine_ctx"); intro b' t' h' tk' hk' e'; (walk_at "mine_kept"))))
theorem spelled_spec {how : Int} {v : Tok} {bs : List Int} (hh : how = 0 ∨ how = 1 ∨ how = 2 ∨ how = 3)
    (X : (hd.heap_1 w.params).In s.heap) (T : TT mean mg mb s.heap) (hd : dp < 950) (hb : KBw.bInts b = bs) (hbl : bs.length ≤ 100)
    (hQ : ∀ t h' tk, Keep s.heap h' → Q (.str (spell how bs) t) { s with heap := h', toks := tk }) :
    wpAny (model PG w) (AA dp un fr gd) (call (.ref 134) [.bytes b t, .int how v]) Q E s := by
  have hin : KBa.In bs := hb ▸ bInts_in b
  refine' enter_pure (binds := [(Str.ofString "row", .bytes b t), (Str.ofString "how", .int how v)]) ?kX ?kT ?k6 ?k7 ?k8 ?k9 ?kB ?_ ?c2 ?c3 ?c4 ?c5
  k_dflt (walk_at "mine_enter")
  rcases hh with rfl | rfl | rfl | rfl
  all_goals k_steps
  all_goals (try dsimp only)
  all_goals exact hQ _ _ _ (Fr.keep (by assumption))
theorem spelled_none {how : Int} {v : Tok}
    (X : (hd.heap_1 w.params).In s.heap) (T : TT mean mg mb s.heap) (hd : dp < 950)
    (hQ : ∀ h' tk, Keep s.heap h' → Q .none { s with heap := h', toks := tk }) :
    wpAny (model PG w) (AA dp un fr gd) (call (.ref 134) [.none, .int how v]) Q E s := by
  refine' enter_pure (binds := [(Str.ofString "row", .none), (Str.ofString "how", .int how v)]) ?kX ?kT ?k6 ?k7 ?k8 ?k9 ?kB ?_ ?c2 ?c3 ?c4 ?c5
  k_dflt (walk_at "mine_enter")
  k_steps
  all_goals (try dsimp only)
  all_goals exact hQ _ _ (Fr.keep (by assumption))
end
end Mine

end -- B6
theorem Mine.pad_C1 : Mine.PadG := by first | (walk1; fail "pad") | exact trivial
section -- C1
open PySem PySem.W PySem.Calls PyProof.Rows
set_option maxRecDepth 100000
set_option maxHeartbeats 4000000
namespace Mine
/-- an element's end in a comprehension: its value, and the new objects that bear it -/
noncomputable def ElEnd (C : Addr) (s : Shared) (h : Heap) (G : Value → List (Addr × Obj) → Prop) (y : Value) (s₅ : Shared) : Prop :=
  ∃ h' tk m fp, s₅ = { s with heap := h', toks := tk } ∧ h'.Ns C m ∧ (∀ b o, b ≠ C → h.get? b = some o → h'.get? b = some o) ∧ (∀ p ∈ fp, h.get? p.1 = none ∧ h'.get? p.1 = some p.2) ∧ G y fp
theorem get_append_last {α : Type} {l : List α} {x y : α} {j : Nat} (h : (l ++ [x])[j]? = some y) : (l[j]? = some y) ∨ (j = l.length ∧ y = x) := by
  rcases Nat.lt_trichotomy j l.length with h1 | h1 | h1
  · left; rwa [List.getElem?_append_left h1] at h
  · right; subst h1; simp at h; exact ⟨rfl, h.symm⟩
  · rw [List.getElem?_eq_none (by simp; omega)] at h; cases h
section
variable {prog : Program} {w : World} {A : Around} {E : Value → Shared → Prop} {env : Env} {s : Shared} {elt target iter : Expr} {scope : Scope} {cl : List (Str × Addr)} {pos : Pos}
theorem comp_walk {I : Addr} {fp wr : List Addr} {n : Nat} {P : Nat → Value → Prop} {St : Nat → Heap → Prop} (W : Walks prog w A I fp wr n P St) (G : Nat → Value → List (Addr × Obj) → Prop)
    (hsz : n ≤ sizeLine) (hlive : ∀ i h, St i h → ∀ b ∈ wr, ∃ o, h.get? b = some o) (hst : St 0 s.heap) (hfp : ∀ b ∈ fp, b < s.heap.objs.size)
    (hcell : ∀ y ∈ scope.names, y.2 ≠ .cell) (hkind : scope.kind = .function)
    (hown : ∀ i v (s' : Shared) (Q' : Unit → Shared → Prop) (E' : Value → Shared → Prop), P i v → St (i + 1) s'.heap → Q' () s' → wpAny (model prog w) A (letOwnedTupleGo target (.ref I) v) Q' E' s')
    (turn : ∀ i v C h tk m (E' : Value → Shared → Prop), i < n → P i v → s.heap.objs.size ≤ C → h.Ns C m → (∀ b o, b ∉ wr → s.heap.get? b = some o → h.get? b = some o) →
      wpAny (model prog w) A (assign target (compEnvC scope cl C env) v) (fun _ s₄ => wpAny (model prog w) A (eval elt (compEnvC scope cl C env)) (ElEnd C s h (G i)) E' s₄) E' { s with heap := h, toks := tk })
    {RR : Value → Addr → Result → Shared → Prop}
    (hRR : ∀ D C h' tk m' (ys : Array Value) (fps : List (List (Addr × Obj))), s.heap.get? D = none → s.heap.get? C = none → D ≠ C → h'.Ns C m' → h'.PlainList D ys → ys.size = n → fps.length = n →
      (∀ (i : Nat) y f, ys[i]? = some y → fps[i]? = some f → G i y f) → (∀ f ∈ fps, ∀ p ∈ f, s.heap.get? p.1 = none ∧ p.1 ≠ C ∧ p.1 ≠ D ∧ p.1 ∉ wr ∧ h'.get? p.1 = some p.2) →
      fps.Pairwise (fun f g => ∀ p ∈ f, ∀ q ∈ g, p.1 ≠ q.1) → (∀ b o, b ∉ wr → s.heap.get? b = some o → h'.get? b = some o) → RR (.ref D) C (.ok .next) { s with heap := h', toks := tk }) :
    wpAny (model prog w) A (newList []) (fun acc s₃ => wpAny (model prog w) A (newFunctionEnv scope env.globals cl [] env.qual none .none (some env)) (fun cenv s₄ =>
      codeAny (model prog w) A (.compStart (.ListComp elt [⟨target, iter, [], 0⟩] scope pos) 0 (.ref I) acc { cenv with scope := relabel scope env }) (RR acc cenv.locals) s₄) E s₃) E s := by
  refine wpAny_newObj_type (wpAny_newFunctionEnv hcell (by intro y hy; simp at hy) (fun h₁ hns₁ hsb₁ => ?_) hkind)
  dsimp only at hns₁ hsb₁ ⊢
  generalize hH2 : s.heap.push { cls := .type "list", dict := none, data := .seq ([] : List Value).toArray } = H2 at hns₁ hsb₁ ⊢
  have hC : H2.objs.size = s.heap.objs.size + 1 := by rw [← hH2, Heap.size_push]
  have hDC : s.heap.objs.size ≠ H2.objs.size := by rw [hC]; exact Nat.ne_of_lt (Nat.lt_succ_self _)
  have hCle : s.heap.objs.size ≤ H2.objs.size := by rw [hC]; exact Nat.le_succ _
  have below : ∀ b, b < s.heap.objs.size → b ≠ H2.objs.size ∧ b ≠ s.heap.objs.size := fun b hb => ⟨by rw [hC]; exact Nat.ne_of_lt (Nat.lt_succ_of_lt hb), Nat.ne_of_lt hb⟩
  have old : ∀ b o, s.heap.get? b = some o → h₁.get? b = some o := fun b o e => hsb₁.extBut b o (below b (Heap.lt_size e)).1 (Heap.get?_push_of_some _ (hH2 ▸ Heap.get?_push_of_some _ e))
  have hacc : h₁.PlainList s.heap.objs.size #[] := ⟨_, hsb₁.extBut _ _ hDC (Heap.get?_push_of_some _ (hH2 ▸ Heap.get?_push_size _ rfl))⟩
  have hst₁ : St 0 h₁ := W.frame _ _ _ hst fun b _ o e => old b o e
  have fresh : ∀ a, s.heap.objs.size ≤ a → s.heap.get? a = none := fun a ha => by
    cases e : s.heap.get? a with
    | none => rfl
    | some o' => exact absurd (Heap.lt_size e) (Nat.not_lt.mpr ha)
  have hCw : H2.objs.size ∉ wr := fun h => (below _ (hfp _ (W.sub _ h))).1 rfl
  have hDw : s.heap.objs.size ∉ wr := fun h => (below _ (hfp _ (W.sub _ h))).2 rfl
  generalize hCn : H2.objs.size = C at *
  generalize hDn : s.heap.objs.size = D at *
  have loop : ∀ s₃ : Shared, s₃ = { s with heap := h₁, toks := s.toks + ([] : List (Str × Value)).length } →
      codeAny (model prog w) A (.compLoop (.ListComp elt [⟨target, iter, [], 0⟩] scope pos) 0 (.ref I) (.ref D) (compEnvC scope cl C env)) (RR (.ref D) C) s₃ := by
    rintro s₃ rfl
    refine kcp_loop
      (fun k s' => ∃ h' tk i ys fps m', s' = { s with heap := h', toks := tk } ∧ i ≤ n ∧ k = n + 1 - i ∧ (ys : Array Value).size = i ∧ (fps : List (List (Addr × Obj))).length = i ∧ St i h' ∧ h'.PlainList D ys ∧ h'.Ns C m' ∧
        (∀ (j : Nat) y f, ys[j]? = some y → fps[j]? = some f → G j y f) ∧ (∀ f ∈ fps, ∀ p ∈ f, s.heap.get? p.1 = none ∧ p.1 ≠ C ∧ p.1 ≠ D ∧ p.1 ∉ wr ∧ h'.get? p.1 = some p.2) ∧
        fps.Pairwise (fun f g => ∀ p ∈ f, ∀ q ∈ g, p.1 ≠ q.1) ∧ (∀ b o, b ∉ wr → s.heap.get? b = some o → h'.get? b = some o)) ?_ (n + 1)
      ⟨h₁, _, 0, #[], [], _, rfl, Nat.zero_le _, rfl, rfl, rfl, hst₁, hacc, hns₁, by simp, by simp, .nil, fun b o _ e => old b o e⟩
    rintro k s' ⟨H, tk, i, ys, fps, m', rfl, hi, rfl, hys, hfl, hSt, hD, hN, hG, hF, hPw, hk⟩
    by_cases hlt : i < n
    · refine W.item i _ _ _ hlt hSt fun v h₂ tk₂ hP hSt₂ hk₂ => ?_
      refine hown i v _ _ _ hP hSt₂ ?_
      have hN₂ : h₂.Ns C m' := hN.at' fun o e => hk₂ _ o hCw e
      refine wpAny_mono (turn i v C h₂ tk₂ m' _ hlt hP hCle hN₂ fun b o hb e => hk₂ b o hb (hk b o hb e)) (fun _ s₄ h₄ => wpAny_mono h₄ (fun y s₅ h₅ => ?_) fun _ _ e => e) fun _ _ e => e
      obtain ⟨h₃, tk₃, m₃, f, rfl, hN₃, hk₃, hf, hGy⟩ := h₅
      have hD₂ : h₂.PlainList D ys := hD.at fun o e => hk₂ _ o hDw e
      have hD₃ : h₃.PlainList D ys := hD₂.at fun o e => hk₃ _ o hDC e
      refine wpAny_list_append_plain (hsz := by omega) hD₃ fun h₄ hD₄ hs₄ => ?_
      have exC : ∃ o, h₂.get? C = some o := by obtain ⟨o, _, _, ho, _⟩ := hN₂; exact ⟨o, ho⟩
      have exD : ∃ o, h₂.get? D = some o := by obtain ⟨_, ho⟩ := hD₂; exact ⟨_, ho⟩
      have newf : ∀ p ∈ f, s.heap.get? p.1 = none ∧ p.1 ≠ C ∧ p.1 ≠ D ∧ p.1 ∉ wr := fun p hp => by
        have hn := (hf p hp).1
        have h1 : p.1 ≠ C := fun e => by obtain ⟨o, ho⟩ := exC; rw [e, ho] at hn; cases hn
        have h2 : p.1 ≠ D := fun e => by obtain ⟨o, ho⟩ := exD; rw [e, ho] at hn; cases hn
        have h3 : p.1 ∉ wr := fun e => by obtain ⟨o, ho⟩ := hlive _ _ hSt₂ _ e; rw [ho] at hn; cases hn
        refine ⟨?_, h1, h2, h3⟩
        cases e : s.heap.get? p.1 with
        | none => rfl
        | some o => have := hk₂ _ o h3 (hk _ o h3 e); rw [this] at hn; cases hn
      refine ⟨n + 1 - (i + 1), by omega, h₄, tk₃, i + 1, ys.push y, fps ++ [f], m₃, rfl, hlt, rfl, by simp [hys], by simp [hfl], ?_, hD₄, hN₃.sameBut hs₄ (Ne.symm hDC), ?_, ?_, ?_, ?_⟩
      · refine W.frame _ _ _ hSt₂ fun b hb o e => hs₄.extBut b o (below b (hfp b hb)).2 (hk₃ b o (below b (hfp b hb)).1 e)
      · intro j z g hz hg
        rcases get_append_last hg with hg' | ⟨rfl, rfl⟩
        · have hj : j < fps.length := (List.getElem?_eq_some_iff.mp hg').1
          rw [Array.getElem?_push] at hz
          rw [if_neg (by omega)] at hz
          exact hG j z g hz hg'
        · rw [Array.getElem?_push, if_pos (by omega)] at hz
          cases hz
          rw [hfl]
          exact hGy
      · intro g hg p hp
        rcases List.mem_append.mp hg with hg | hg
        · obtain ⟨a1, a2, a3, a4, a5⟩ := hF g hg p hp
          exact ⟨a1, a2, a3, a4, hs₄.extBut _ _ a3 (hk₃ _ _ a2 (hk₂ _ _ a4 a5))⟩
        · rw [List.mem_singleton.mp hg] at hp
          obtain ⟨a1, a2, a3, a4⟩ := newf p hp
          exact ⟨a1, a2, a3, a4, hs₄.extBut _ _ a3 (hf p hp).2⟩
      · refine List.pairwise_append.mpr ⟨hPw, List.pairwise_singleton _ _, fun g hg g' hg' p hp q hq => ?_⟩
        rw [List.mem_singleton.mp hg'] at hq
        obtain ⟨_, _, _, a4, a5⟩ := hF g hg p hp
        intro e
        have hn := (hf q hq).1
        rw [← e, hk₂ _ _ a4 a5] at hn
        cases hn
      · intro b o hb e
        have hlt' := Heap.lt_size e
        rw [hDn] at hlt'
        exact hs₄.extBut b o (below b hlt').2 (hk₃ b o (below b hlt').1 (hk₂ b o hb (hk b o hb e)))
    · have hin : i = n := by omega
      subst hin
      refine W.done _ _ _ hSt fun h₂ tk₂ hk₂ => ?_
      exact hRR D C h₂ tk₂ m' ys fps (fresh _ (Nat.le_refl _)) (fresh _ hCle) hDC (hN.at' fun o e => hk₂ _ o hCw e) (hD.at fun o e => hk₂ _ o hDw e) hys hfl hG
        (fun g hg p hp => by obtain ⟨a1, a2, a3, a4, a5⟩ := hF g hg p hp; exact ⟨a1, a2, a3, a4, hk₂ _ _ a4 a5⟩) hPw fun b o hb e => hk₂ b o hb (hk b o hb e)
  exact codeAny_compStart_list (loop _ rfl) (W.self 0 _ _ _ hst₁ (loop _ rfl))
end
end Mine

end -- C1
theorem Mine.pad_C2 : Mine.PadG := by first | (walk1; fail "pad") | exact trivial
section -- C2
open PySem PySem.W PySem.Calls PyProof.Rows
set_option maxRecDepth 100000
set_option maxHeartbeats 4000000
namespace Mine
/-- what a comprehension's source hands on: a walk, each turn's element, the end -/
noncomputable def CompAt (prog : Program) (w : World) (A : Around) (env : Env) (target elt : Expr) (scope : Scope) (cl : List (Str × Addr)) (bar : List Addr) (Fin : Addr → Shared → Prop) (it : Value) (s : Shared) : Prop :=
  ∃ (I : Addr) (fp wr : List Addr) (n : Nat) (P : Nat → Value → Prop) (St : Nat → Heap → Prop) (G : Nat → Value → List (Addr × Obj) → Prop), it = .ref I ∧ Walks prog w A I fp wr n P St ∧ n ≤ sizeLine ∧
    (∀ i h, St i h → ∀ b ∈ wr, ∃ o, h.get? b = some o) ∧ St 0 s.heap ∧ (∀ b ∈ fp, b < s.heap.objs.size) ∧ (∀ b ∈ bar, b ∉ wr) ∧
    (∀ i v (s' : Shared) (Q' : Unit → Shared → Prop) (E' : Value → Shared → Prop), P i v → St (i + 1) s'.heap → Q' () s' → wpAny (model prog w) A (letOwnedTupleGo target (.ref I) v) Q' E' s') ∧
    (∀ i v C h tk m (E' : Value → Shared → Prop), i < n → P i v → s.heap.objs.size ≤ C → h.Ns C m → (∀ b o, b ∉ wr → s.heap.get? b = some o → h.get? b = some o) →
      wpAny (model prog w) A (assign target (compEnvC scope cl C env) v) (fun _ s₄ => wpAny (model prog w) A (eval elt (compEnvC scope cl C env)) (ElEnd C s h (G i)) E' s₄) E' { s with heap := h, toks := tk }) ∧
    (∀ D h' tk (ys : Array Value) (fps : List (List (Addr × Obj))), s.heap.get? D = none → h'.PlainList D ys → ys.size = n → fps.length = n →
      (∀ (i : Nat) y f, ys[i]? = some y → fps[i]? = some f → G i y f) → (∀ f ∈ fps, ∀ p ∈ f, s.heap.get? p.1 = none ∧ p.1 ≠ D ∧ h'.get? p.1 = some p.2) →
      fps.Pairwise (fun f g => ∀ p ∈ f, ∀ q ∈ g, p.1 ≠ q.1) → (∀ b o, b ∉ bar → b ∉ wr → s.heap.get? b = some o → h'.get? b = some o) → Fin D { s with heap := h', toks := tk })
section
variable {prog : Program} {w : World} {A : Around} {E : Value → Shared → Prop} {env : Env} {s : Shared} {elt target iter : Expr} {scope : Scope} {cl : List (Str × Addr)} {pos : Pos}
theorem comp_eval {Q : Value → Shared → Prop} (hclos : closureFor scope env = pure cl) (hcell : ∀ y ∈ scope.names, y.2 ≠ .cell) (hkind : scope.kind = .function)
    (hnames : ∀ y ∈ scope.names, y.2 = .local → scope.names.lookup y.1 = some .local) (hs : ∀ x, foldedSetIterable iter env x = pure x)
    (h : wpAny (model prog w) A (eval iter env) (fun xv s₁ => wpAny (model prog w) A (pyIter xv) (CompAt prog w A env target elt scope cl [] (fun D s' => Q (.ref D) s')) E s₁) E s) :
    wpAny (model prog w) A (eval (.ListComp elt [⟨target, iter, [], 0⟩] scope pos) env) Q E s := by
  rw [eval_ListComp]
  refine wpAny_comprehension_free (use := none) rfl hs hclos hkind hnames (wpAny_mono h (fun xv s₁ h₁ => wpAny_mono h₁ (fun it s₂ h₂ => ?_) fun _ _ e => e) fun _ _ e => e)
  obtain ⟨I, fp, wr, n, P, St, G, rfl, W, hsz, hlive, hst, hfp, _, hown, turn, fin⟩ := h₂
  refine comp_walk (RR := fun acc C => compPost (model prog w) A E none Q acc C) W G hsz hlive hst hfp hcell hkind hown turn ?_
  intro D C h' tk m' ys fps hD hC hDC hn hpl hy hf hG hF hPw hk
  refine ⟨m', hn, fun h'' hs'' => fin D h'' tk ys fps hD (hpl.at fun o e => hs''.extBut _ _ hDC e) hy hf hG (fun f hf p hp => ?_) hPw fun b o _ hb e => ?_⟩
  · obtain ⟨a1, a2, a3, _, a5⟩ := hF f hf p hp
    exact ⟨a1, a3, hs''.extBut _ _ a2 a5⟩
  · exact hs''.extBut b o (by rintro rfl; rw [hC] at e; cases e) (hk b o hb e)
/-- NAME = [..]: the list is bound ahead of the block's names being let go -/
theorem comp_assign {Q : Flow → Shared → Prop} {y : Str} {py spos : Pos} {L : Addr} {h₀ : Heap} (hsw : swapsWith (.ListComp elt [⟨target, iter, [], 0⟩] scope pos) (some (.Name y py)) spos.line env = pure true)
    (hclos : closureFor scope env = pure cl) (hcell : ∀ y ∈ scope.names, y.2 ≠ .cell) (hkind : scope.kind = .function)
    (hnames : ∀ y ∈ scope.names, y.2 = .local → scope.names.lookup y.1 = some .local) (hs : ∀ x, foldedSetIterable iter env x = pure x)
    (hL : env.locals = L) (hy : env.kindOf y = some .local) (hp : (env.scope.kind == .class || (env.scope.kind == .module && env.locals != env.globals)) = false)
    (h : wpAny (model prog w) A (eval iter env) (fun xv s₁ => ∃ m, Fr h₀ L s₁.heap m ∧ wpAny (model prog w) A (pyIter xv) (fun it s₂ => s₂.heap.Ns L m ∧ CompAt prog w A env target elt scope cl [L] (fun D s' => s'.heap.Ns L (fun z => if z = y then some (.ref D) else m z) → Q .next s') it s₂) E s₁) E s) :
    wpAny (model prog w) A (exec (.Assign [.Name y py] (.ListComp elt [⟨target, iter, [], 0⟩] scope pos) spos) env) Q E s := by
  rw [exec_Assign_Name_used _ _ _ _ hsw]
  refine wpAny_bind (wpAny_standAt (wpAny_bind ?_))
  show wpAny _ A (do let _ ← comprehension (.ListComp elt [⟨target, iter, [], 0⟩] scope pos) scope env _ (newList []) false (eval iter env) (some (assign (.Name y py) env))) _ _ s
  refine wpAny_bind (wpAny_mono (wpAny_comprehension_free (use := some (assign (.Name y py) env)) (Q := fun _ s' => Q .next s') rfl hs hclos hkind hnames
    (wpAny_mono h (fun xv s₁ h₁ => ?_) fun _ _ e => e)) (fun _ s' hq => wpAny_pure (wpAny_pure hq)) fun _ _ e => e)
  obtain ⟨m, _, h₁⟩ := h₁
  refine wpAny_mono h₁ (fun it s₂ h₂ => ?_) fun _ _ e => e
  obtain ⟨hn, I, fp, wr, n, P, St, G, rfl, W, hsz, hlive, hst, hfp, hbar, hown, turn, fin⟩ := h₂
  refine comp_walk (RR := fun acc C => compPost (model prog w) A E (some (assign (.Name y py) env)) (fun _ s' => Q .next s') acc C) W G hsz hlive hst hfp hcell hkind hown turn ?_
  intro D C h' tk m' ys fps hD hC hDC hnC hpl hys hfs hG hF hPw hk
  subst hL
  have hLw : env.locals ∉ wr := hbar _ (List.mem_singleton.mpr rfl)
  have hLC : env.locals ≠ C := by rintro rfl; obtain ⟨o, _, _, ho, _⟩ := hn; rw [hC] at ho; cases ho
  have hLD : env.locals ≠ D := by rintro rfl; obtain ⟨o, _, _, ho, _⟩ := hn; rw [hD] at ho; cases ho
  have hLs : ∃ o, s₂.heap.get? env.locals = some o := by obtain ⟨o, _, _, ho, _⟩ := hn; exact ⟨o, ho⟩
  show wpAny _ A (assign (.Name y py) env (.ref D)) _ _ _
  refine wpAny_assign_Name (wpAny_storeName_local hy (hn.at' fun o e => hk _ o hLw e) (fun h₂ hn₂ hs₂ => ?_) hp)
  refine ⟨m', hnC.sameBut hs₂ (Ne.symm hLC), fun h₃ hs₃ => ?_⟩
  refine fin D h₃ _ ys fps hD ((hpl.at fun o e => hs₂.extBut _ _ (Ne.symm hLD) e).at fun o e => hs₃.extBut _ _ hDC e) hys hfs hG (fun f hf p hp => ?_) hPw (fun b o hbL hb e => ?_) (hn₂.sameBut hs₃ hLC)
  · obtain ⟨a1, a2, a3, _, a5⟩ := hF f hf p hp
    have hpL : p.1 ≠ env.locals := fun e => by obtain ⟨o, ho⟩ := hLs; rw [e, ho] at a1; cases a1
    exact ⟨a1, a3, hs₃.extBut _ _ a2 (hs₂.extBut _ _ hpL a5)⟩
  · exact hs₃.extBut b o (by rintro rfl; rw [hC] at e; cases e) (hs₂.extBut b o (fun e' => hbL (List.mem_singleton.mpr e')) (hk b o hb e))
/-- the source is a list -/
theorem src_listK {l : Addr} {vs : List Value} {bar : List Addr} {Fin : Addr → Shared → Prop} (G : Nat → Value → List (Addr × Obj) → Prop) (hh : A.handled = none) (hl : s.heap.IsList l vs.toArray) (hz : vs.length ≤ sizeLine)
    (hbar : ∀ b ∈ bar, ∃ o, s.heap.get? b = some o)
    (htg : (∃ x p, target = .Name x p) ∨ (∃ es k p, target = .Tuple es k p) ∧ ∀ v ∈ vs, ∃ T, v = .ref T)
    (turn : ∀ (i : Nat) v C h tk m (E' : Value → Shared → Prop), vs[i]? = some v → s.heap.objs.size ≤ C → h.Ns C m → (∀ b o, s.heap.get? b = some o → h.get? b = some o) →
      wpAny (model prog w) A (assign target (compEnvC scope cl C env) v) (fun _ s₄ => wpAny (model prog w) A (eval elt (compEnvC scope cl C env)) (ElEnd C s h (G i)) E' s₄) E' { s with heap := h, toks := tk })
    (fin : ∀ D h' tk (ys : Array Value) (fps : List (List (Addr × Obj))), s.heap.get? D = none → h'.PlainList D ys → ys.size = vs.length → fps.length = vs.length →
      (∀ (i : Nat) y f, ys[i]? = some y → fps[i]? = some f → G i y f) → (∀ f ∈ fps, ∀ p ∈ f, s.heap.get? p.1 = none ∧ p.1 ≠ D ∧ h'.get? p.1 = some p.2) →
      fps.Pairwise (fun f g => ∀ p ∈ f, ∀ q ∈ g, p.1 ≠ q.1) → (∀ b o, b ∉ bar → s.heap.get? b = some o → h'.get? b = some o) → Fin D { s with heap := h', toks := tk }) :
    wpAny (model prog w) A (pyIter (.ref l)) (fun it s₂ => (∀ b o, s.heap.get? b = some o → s₂.heap.get? b = some o) ∧ CompAt prog w A env target elt scope cl bar Fin it s₂) E s := by
  obtain ⟨ol, hol, _⟩ := id hl
  have hlt : l < s.heap.objs.size := Heap.lt_size hol
  have hne : l ≠ s.heap.objs.size := Nat.ne_of_lt hlt
  refine wpAny_pyIter_list hl ⟨fun b o e => Heap.get?_push_of_some _ e, ?_⟩
  have W := Walks.list (prog := prog) (w := w) hh s.heap.objs.size l hne vs.toArray
  have old : ∀ b o, s.heap.get? b = some o → b ∉ [s.heap.objs.size] := fun b o e h => absurd (Heap.lt_size e) (by rw [List.mem_singleton.mp h]; exact Nat.lt_irrefl _)
  have psz : (s.heap.push { cls := .type "list_iterator", data := .fields #[.ref l, .int 0 0] }).objs.size = s.heap.objs.size + 1 := Heap.size_push _ _
  have pold : ∀ b o, s.heap.get? b = some o → (s.heap.push { cls := .type "list_iterator", data := .fields #[.ref l, .int 0 0] }).get? b = some o := fun b o e => Heap.get?_push_of_some _ e
  have pnone : ∀ b, (s.heap.push { cls := .type "list_iterator", data := .fields #[.ref l, .int 0 0] }).get? b = none → s.heap.get? b = none := fun b hb => by
    cases e : s.heap.get? b with
    | none => rfl
    | some o => rw [pold b o e] at hb; cases hb
  refine ⟨s.heap.objs.size, _, _, _, _, _, G, rfl, W, by simpa using hz, ?_, ⟨⟨_, Heap.get?_push_size _ rfl, rfl, rfl⟩, hl.at fun o e => Heap.get?_push_of_some _ e⟩, ?_, ?_, ?_, ?_, ?_⟩
  · rintro i h ⟨⟨o, ho, _⟩, _⟩ b hb
    rw [List.mem_singleton.mp hb]; exact ⟨o, ho⟩
  · intro b hb
    refine Nat.lt_of_lt_of_eq ?_ psz.symm
    simp only [List.mem_cons, List.not_mem_nil, or_false] at hb
    rcases hb with rfl | rfl
    · exact Nat.lt_succ_self _
    · exact Nat.lt_succ_of_lt hlt
  · intro b hb h
    obtain ⟨o, ho⟩ := hbar b hb
    exact old b o ho h
  · intro i v s' Q' E' hP hSt hq
    rcases htg with ⟨x, p, rfl⟩ | ⟨⟨es, k, p, rfl⟩, hT⟩
    · exact wpAny_pure hq
    · have hv : v ∈ vs := by
        have hP' : vs[i]? = some v := by simpa using hP
        exact List.mem_of_getElem? hP'
      obtain ⟨T, rfl⟩ := hT v hv
      exact wpAny_letOwnedTupleGo_listiter hSt.1 hq
  · intro i v C h tk m E' hi hP hC hn hk
    refine wpAny_mono (turn i v C h tk m E' (by simpa using hP) (by show _ ≤ _; have := hC; dsimp only at this; rw [psz] at this; omega) hn fun b o e => hk b o (old b o e) (pold b o e)) (fun _ s₄ h₄ => ?_) fun _ _ e => e
    exact h₄
  · intro D h' tk ys fps hD hpl hy hf hG hF hPw hk
    refine fin D h' tk ys fps (pnone D hD) hpl (by simpa using hy) (by simpa using hf) hG (fun f hf p hp => ?_) hPw fun b o hb e => hk b o hb (old b o e) (pold b o e)
    obtain ⟨a1, a2, a3⟩ := hF f hf p hp
    exact ⟨pnone _ a1, a2, a3⟩
/-- the source is range(n) -/
theorem src_rangeK {r : Addr} {n : Nat} {t₀ u₀ v₀ : Tok} {bar : List Addr} {Fin : Addr → Shared → Prop} (G : Nat → Value → List (Addr × Obj) → Prop) (hh : A.handled = none) (hr : IsRange s.heap r 0 (n : Int) 1 t₀ u₀ v₀) (hz : n ≤ 1000)
    (hbar : ∀ b ∈ bar, ∃ o, s.heap.get? b = some o) {x : Str} {px : Pos} (htg : target = .Name x px)
    (turn : ∀ (i : Nat) t C h tk m (E' : Value → Shared → Prop), i < n → s.heap.objs.size ≤ C → h.Ns C m → (∀ b o, s.heap.get? b = some o → h.get? b = some o) →
      wpAny (model prog w) A (assign target (compEnvC scope cl C env) (.int (i : Int) t)) (fun _ s₄ => wpAny (model prog w) A (eval elt (compEnvC scope cl C env)) (ElEnd C s h (G i)) E' s₄) E' { s with heap := h, toks := tk })
    (fin : ∀ D h' tk (ys : Array Value) (fps : List (List (Addr × Obj))), s.heap.get? D = none → h'.PlainList D ys → ys.size = n → fps.length = n →
      (∀ (i : Nat) y f, ys[i]? = some y → fps[i]? = some f → G i y f) → (∀ f ∈ fps, ∀ p ∈ f, s.heap.get? p.1 = none ∧ p.1 ≠ D ∧ h'.get? p.1 = some p.2) →
      fps.Pairwise (fun f g => ∀ p ∈ f, ∀ q ∈ g, p.1 ≠ q.1) → (∀ b o, b ∉ bar → s.heap.get? b = some o → h'.get? b = some o) → Fin D { s with heap := h', toks := tk }) :
    wpAny (model prog w) A (pyIter (.ref r)) (fun it s₂ => (∀ b o, s.heap.get? b = some o → s₂.heap.get? b = some o) ∧ CompAt prog w A env target elt scope cl bar Fin it s₂) E s := by
  have hsize : Builtin.Range.rangeSize 0 (n : Int) 1 = (n : Int) := by
    unfold Builtin.Range.rangeSize
    simp; omega
  have fits : ∀ x : Int, 0 ≤ x → x ≤ 1000 → Builtin.Range.rangeFitsLong x = true := fun x h0 h1 => by
    unfold Builtin.Range.rangeFitsLong
    simp only [Bool.and_eq_true, decide_eq_true_eq]; omega
  have hsmall : Builtin.Range.small 0 (n : Int) 1 = true := by
    unfold Builtin.Range.small
    rw [hsize, fits 0 (by decide) (by decide), fits n (by omega) (by omega), fits 1 (by decide) (by decide)]
    simp
    right
    exact fits _ (by omega) (by omega)
  refine wpAny_pyIter_range hr hsmall ⟨fun b o e => Heap.get?_push_of_some _ e, ?_⟩
  rw [hsize]
  have W := Walks.range (prog := prog) (w := w) hh s.heap.objs.size 0 1 n
  have old : ∀ b o, s.heap.get? b = some o → b ∉ [s.heap.objs.size] := fun b o e h => absurd (Heap.lt_size e) (by rw [List.mem_singleton.mp h]; exact Nat.lt_irrefl _)
  generalize hO : ({ cls := .type "range_iterator", data := .fields #[rawInt 0, rawInt (n : Int), rawInt 1] } : Obj) = O
  have hOf : O.isFreed = false := by rw [← hO]; rfl
  have psz : (s.heap.push O).objs.size = s.heap.objs.size + 1 := Heap.size_push _ _
  have pold : ∀ b o, s.heap.get? b = some o → (s.heap.push O).get? b = some o := fun b o e => Heap.get?_push_of_some _ e
  have pnone : ∀ b, (s.heap.push O).get? b = none → s.heap.get? b = none := fun b hb => by
    cases e : s.heap.get? b with
    | none => rfl
    | some o => rw [pold b o e] at hb; cases hb
  refine ⟨s.heap.objs.size, _, _, n, _, _, G, rfl, W, by rw [sizeLine_eq]; omega, ?_, ?_, ?_, ?_, ?_, ?_, ?_⟩
  · intro i h ho b hb
    rw [List.mem_singleton.mp hb]; exact ⟨_, ho⟩
  · show IsRangeIter _ _ _ _ _
    have := Heap.get?_push_size s.heap hOf
    rw [← hO] at this ⊢
    simpa [IsRangeIter] using this
  · intro b hb
    rw [List.mem_singleton.mp hb]
    refine Nat.lt_of_lt_of_eq ?_ psz.symm
    exact Nat.lt_succ_self _
  · intro b hb h
    obtain ⟨o, ho⟩ := hbar b hb
    exact old b o ho h
  · intro i v s' Q' E' hP hSt hq
    subst htg
    exact wpAny_pure hq
  · rintro i v C h tk m E' hi ⟨t, rfl⟩ hC hn hk
    have e : (0 : Int) + (i : Nat) * 1 = (i : Int) := by omega
    rw [e]
    refine wpAny_mono (turn i t C h tk m E' hi (by show _ ≤ _; have := hC; dsimp only at this; rw [psz] at this; omega) hn fun b o e => hk b o (old b o e) (pold b o e)) (fun _ s₄ h₄ => ?_) fun _ _ e => e
    exact h₄
  · intro D h' tk ys fps hD hpl hy hf hG hF hPw hk
    refine fin D h' tk ys fps (pnone D hD) hpl hy hf hG (fun f hf p hp => ?_) hPw fun b o hb e => hk b o hb (old b o e) (pold b o e)
    obtain ⟨a1, a2, a3⟩ := hF f hf p hp
    exact ⟨pnone _ a1, a2, a3⟩
end
end Mine

end -- C2
theorem Mine.pad_C3 : Mine.PadG := by first | (walk1; fail "pad") | exact trivial
section -- C3
open PySem PySem.W PySem.Calls PyProof.Rows
set_option maxRecDepth 100000
set_option maxHeartbeats 8000000
namespace Mine
theorem enter_cells {w : World} {A : Around} {Q E : Value → Shared → Prop} {s : Shared} {mean : ExcName → Option Value} {mg mb : Str → Option Value} {K : Frag}
    {name qual : Str} {params : Arguments} {body : List Stmt} {scope : Scope} {dV kV doc pm cdv ct oc : Value} {an od : Option Addr} {osl : Array (Option Value)} {f : Addr} {args : List Value} {kw : List (Str × Value)} {binds : List (Str × Value)}
    (X : K.In s.heap) (T : TT mean mg mb s.heap)
    (ho : K.lookup f = some ⟨oc, od, .func (fnOf name qual params body scope dV kV doc pm an cdv ct), osl⟩) (hcd : codeIn K cdv qual = true) (hroom : A.depth < recursionLimit)
    (hbind : BindsTo s (fnOf name qual params body scope dV kV doc pm an cdv ct) ⟨args, kw⟩ binds)
    (hkind : (binds.all fun y => scope.names.lookup y.1 == some .local || scope.names.lookup y.1 == some .cell) = true)
    (hnd : ((cellsFrom 0 scope.names []).map (·.1)).Nodup)
    (h : ∀ L h₁ tk cells, Fr s.heap L h₁ (bindL (envOfC qual scope L f cdv).kindOf binds fun _ => none) → News s.heap L h₁ cells →
      CellsAre (bindC (envOfC qual scope L f cdv).kindOf binds fun _ => none) (cellsFrom (L + 1) scope.names []) cells →
      wpAny (model PG w) (A.deeper (envOfC qual scope L f cdv)) (execs body (envOfC qual scope L f cdv))
        (fun fl s' => Q (match fl with | .ret v => v | _ => .none) s') (fun _ _ => False)
        { s with heap := h₁, toks := tk })
    (hco : scope.isCoroutine = false) (hgen : scope.isGenerator = false) (hk : scope.kind = .function) : wpAny (model PG w) A (call (.ref f) args kw) Q E s := by
  refine wpAny_call (codeAny_call_function hroom (X _ _ ho) rfl hco hgen rfl (codeRec_of X hcd) (hbind _ _ _ _ ?_))
  refine wpAny_newFunctionEnv_cells hk (kindsX hkind _) fun env' he s' x => ?_
  subst he
  refine ⟨T.nolimit.keeps x.toInCall.keep, codeAny_func ?_⟩
  obtain ⟨h₁, tk, rfl, _⟩ := x.done
  obtain ⟨cells, NC, Y⟩ := Cl.news (h₀ := s.heap) (Nat.le_refl _) fun n c hm => ⟨x.cell n c (lookup_of_mem_nodup (cellsFrom_names scope.names 0 (s.heap.objs.size + 1) [] [] rfl ▸ hnd) hm), x.above n c hm⟩
  exact wpAny_mono (h s.heap.objs.size h₁ tk cells ⟨x.toInCall.ns, x.toInCall.keep, Nat.le_refl _⟩ NC Y) (fun _ _ y => y) (fun _ _ y => y.elim)

/-- a list's items are octet rows of at most m octets -/
noncomputable def RowsIn (m : Nat) (vs : List Value) : Prop := ∀ v ∈ vs, ∃ b t, v = .bytes b t ∧ (KBw.bInts b).length ≤ m
section
variable {w : World} {Q E : Value → Shared → Prop} {s : Shared} {A : Around} {l : Addr} {vs : List Value} {value slice : Expr} {k : Int} {u : Tok}
theorem len_L (hl : s.heap.IsList l vs.toArray) (hz : vs.length ≤ 1000000) (h : Q (.int ((vs.length : Nat) : Int) (s.toks + 1)) { s with toks := s.toks + 1 + 1 }) : wpAny (model PG w) A (call (.builtin "len") [.ref l]) Q E s :=
  len_list hl (by simp; omega) (by simpa using h)
theorem item_L (hl : s.heap.IsList l vs.toArray) (h0 : 0 ≤ k) (h1 : k < vs.length) (hz : vs.length ≤ 1000000) (h : ∀ v, vs[k.toNat]? = some v → Q v s)
    (hs : subscripted slice false (.ref l) (.int k u) = operate [.ref l, .int k u] (getItem (.ref l) (.int k u))) : wpAny (model PG w) A (subscriptTail value slice (.ref l) (.int k u)) Q E s := by
  have hlt : k.toNat < vs.length := by omega
  have e : vs[k.toNat]? = some vs[k.toNat] := List.getElem?_eq_getElem hlt
  exact tail_any hl.typeIs slot_list_getitem.lookup (wpAny_getItem_list hl h0 (by omega) (by simpa using e) (h _ e)) hs
theorem row_item {m : Nat} (hl : s.heap.IsList l vs.toArray) (hr : RowsIn m vs) (h0 : 0 ≤ k) (h1 : k < vs.length) (hz : vs.length ≤ 1000000) (h : ∀ b t, (KBw.bInts b).length ≤ m → Q (.bytes b t) s)
    (hs : subscripted slice false (.ref l) (.int k u) = operate [.ref l, .int k u] (getItem (.ref l) (.int k u))) : wpAny (model PG w) A (subscriptTail value slice (.ref l) (.int k u)) Q E s := by
  refine item_L hl h0 h1 hz (fun v hv => ?_) hs
  obtain ⟨b, t, rfl, hb⟩ := hr v (List.mem_of_getElem? hv)
  exact h b t hb
end
/-- a list's items are octets -/
noncomputable def OctIn (vs : List Value) : Prop := ∀ v ∈ vs, ∃ k t, v = .int k t ∧ 0 ≤ k ∧ k < 256
theorem oct_item {w : World} {Q E : Value → Shared → Prop} {s : Shared} {A : Around} {l : Addr} {vs : List Value} {value slice : Expr} {k : Int} {u : Tok} (hl : s.heap.IsList l vs.toArray) (hr : OctIn vs) (h0 : 0 ≤ k) (h1 : k < vs.length) (hz : vs.length ≤ 1000000) (h : ∀ k t, 0 ≤ k → k < 256 → Q (.int k t) s)
    (hs : subscripted slice false (.ref l) (.int k u) = operate [.ref l, .int k u] (getItem (.ref l) (.int k u))) : wpAny (model PG w) A (subscriptTail value slice (.ref l) (.int k u)) Q E s := by
  refine item_L hl h0 h1 hz (fun v hv => ?_) hs
  obtain ⟨b, t, rfl, hb, hb'⟩ := hr v (List.mem_of_getElem? hv)
  exact h b t hb hb'
/-- octets of a list of ints -/
theorem octs_of {ys : Array Value} (h : ∀ (i : Nat) y, ys[i]? = some y → ∃ k t, y = .int k t ∧ 0 ≤ k ∧ k < 256) : ∃ ns, IntsAre ys.toList ns ∧ KBa.In ns ∧ ns.length = ys.size := by
  have key : ∀ l : List Value, (∀ y ∈ l, ∃ k t, y = Value.int k t ∧ 0 ≤ k ∧ k < 256) → ∃ ns, IntsAre l ns ∧ KBa.In ns ∧ ns.length = l.length := by
    intro l
    induction l with
    | nil => intro _; exact ⟨[], .nil, fun _ h => (nomatch h), rfl⟩
    | cons v r ih =>
      intro h
      obtain ⟨k, t, rfl, h0, h1⟩ := h v (List.mem_cons_self ..)
      obtain ⟨ns, a, b, c⟩ := ih fun y hy => h y (List.mem_cons_of_mem _ hy)
      exact ⟨k :: ns, .cons k t a, fun n hn => by rcases List.mem_cons.mp hn with rfl | hn; exact ⟨h0, h1⟩; exact b n hn, by simp [c]⟩
  obtain ⟨ns, a, b, c⟩ := key ys.toList fun y hy => by
    obtain ⟨i, hi⟩ := List.mem_iff_getElem?.mp hy
    exact h i y (by simpa using hi)
  exact ⟨ns, a, b, by simpa using c⟩
theorem keepL {h h' : Heap} {l : Addr} {its : Array Value} (k : Keep h h') (hl : h.IsList l its) : h'.IsList l its := hl.at fun o e => k l o e
section
variable {M : Model} {Q E : Value → Shared → Prop} {s : Shared} {A : Around} {env : Env} {scope : Scope} {cl : List (Str × Addr)} {C L c : Addr} {g h₀ : Heap} {m : Str → Option Value} {news : List (Addr × Obj)} {x : Str} {pos : Pos} {v : Value} {o : Obj}
/-- names in a comprehension's block -/
theorem nameCL (F : Fr g C s.heap m) (hx : (compEnvC scope cl C env).kindOf x = some .local) (hk : scope.kind = .function) (hd : (x == ("__debug__" : Str)) = false) (hv : m x = some v) (h : Q v s) :
    wpAny M A (eval (.Name x pos) (compEnvC scope cl C env)) Q E s := wpAny_Name (wpAny_loadName_local (env := compEnvC scope cl C env) (by show scope.kind = _; exact hk) hx F.ns hv h) hd
theorem nameCC (F : Fr g C s.heap m) (N : News h₀ L g news) (hx : (compEnvC scope cl C env).kindOf x = some .cell) (hk : scope.kind = .function) (hd : (x == ("__debug__" : Str)) = false) (hc : cl.lookup x = some c) (hm : (c, o) ∈ news) (ho : o.data = .cell (some v)) (h : Q v s) :
    wpAny M A (eval (.Name x pos) (compEnvC scope cl C env)) Q E s := wpAny_Name (wpAny_loadName_cell (env := compEnvC scope cl C env) (by show scope.kind = _; exact hk) hx hc ⟨o, F.keep _ _ (N.get hm), ho⟩ h) hd
end
end Mine

end -- C3
theorem Mine.pad_C4 : Mine.PadG := by first | (walk1; fail "pad") | exact trivial
section -- C4
open PySem PySem.W PySem.Calls PyProof.Rows
set_option maxRecDepth 100000
set_option maxHeartbeats 4000000
namespace Mine
/-- an element's end, by the frame and the ledger -/
noncomputable def ElF (C : Addr) (s : Shared) (own : List (Addr × Obj)) (G : Value → List (Addr × Obj) → Prop) (y : Value) (s₅ : Shared) : Prop :=
  ∃ h' tk m news fp, s₅ = { s with heap := h', toks := tk } ∧ Fr s.heap C h' m ∧ News s.heap C h' news ∧ (∀ p ∈ own, p ∈ news) ∧ (∀ p ∈ fp, p ∈ news ∧ ∀ q ∈ own, q.1 ≠ p.1) ∧ G y fp
theorem ElF.flat {C : Addr} {s : Shared} {own news : List (Addr × Obj)} {G : Value → List (Addr × Obj) → Prop} {y : Value} {h' : Heap} {tk : Nat} {m : Str → Option Value} (F : Fr s.heap C h' m) (N : News s.heap C h' news) (ho : ∀ p ∈ own, p ∈ news) (hg : G y []) :
    ElF C s own G y { s with heap := h', toks := tk } := ⟨h', tk, m, news, [], rfl, F, N, ho, fun _ h => (nomatch h), hg⟩
/-- all that a heap holds beyond another one, but one place -/
noncomputable def restOf (g h : Heap) (C : Addr) : List (Addr × Obj) := (List.range h.objs.size).filterMap fun b => if b = C then none else match g.get? b with
  | some _ => none
  | none => (h.get? b).map fun o => (b, o)
theorem mem_rest {g h : Heap} {C : Addr} {p : Addr × Obj} : p ∈ restOf g h C ↔ p.1 ≠ C ∧ g.get? p.1 = none ∧ h.get? p.1 = some p.2 := by
  unfold restOf
  rw [List.mem_filterMap]
  constructor
  · rintro ⟨b, _, hb⟩
    split at hb
    · cases hb
    · rename_i hbC
      split at hb
      · cases hb
      · rename_i hg
        obtain ⟨o, ho, rfl⟩ := Option.map_eq_some_iff.mp hb
        exact ⟨hbC, hg, ho⟩
  · rintro ⟨h1, h2, h3⟩
    refine ⟨p.1, List.mem_range.mpr (Heap.lt_size h3), ?_⟩
    rw [if_neg h1, h2]
    simp [h3]
theorem news_rest (g h : Heap) (C : Addr) : News g C h (restOf g h C) := fun p hp => by
  obtain ⟨h1, h2, h3⟩ := mem_rest.mp hp
  exact ⟨h3, h1, h2⟩
theorem ElF.toEnd {C : Addr} {s : Shared} {h : Heap} {G : Value → List (Addr × Obj) → Prop} {y : Value} {s₅ : Shared} (hk : ∀ b o, s.heap.get? b = some o → h.get? b = some o) (x : ElF C s (restOf s.heap h C) G y s₅) : ElEnd C s h G y s₅ := by
  obtain ⟨h', tk, m, news, fp, rfl, F, N, ho, hf, hg⟩ := x
  refine ⟨h', tk, m, fp, rfl, F.ns, fun b o hb e => ?_, fun p hp => ⟨?_, (N p (hf p hp).1).1⟩, hg⟩
  · cases q : s.heap.get? b with
    | some o' =>
      have := hk b o' q
      rw [e] at this; cases this
      exact F.keep b o q
    | none => exact (N (b, o) (ho _ (mem_rest.mpr ⟨hb, q, e⟩))).1
  · have hn := N p (hf p hp).1
    cases q : h.get? p.1 with
    | none => rfl
    | some o => exact absurd rfl ((hf p hp).2 (p.1, o) (mem_rest.mpr ⟨hn.2.1, hn.2.2, q⟩))
section
variable {prog : Program} {w : World} {A : Around} {E : Value → Shared → Prop} {env : Env} {s : Shared} {elt : Expr} {scope : Scope} {cl : List (Str × Addr)} {bar : List Addr} {Fin : Addr → Shared → Prop}
theorem src_listNK {l : Addr} {vs : List Value} {x : Str} {px : Pos} (G : Nat → Value → List (Addr × Obj) → Prop) (hh : A.handled = none) (hl : s.heap.IsList l vs.toArray) (hz : vs.length ≤ sizeLine)
    (hbar : ∀ b ∈ bar, ∃ o, s.heap.get? b = some o) (hkx : scope.names.lookup x = some .local) (hkind : scope.kind = .function)
    (turn : ∀ (i : Nat) v C h tk (m : Str → Option Value) own (E' : Value → Shared → Prop), vs[i]? = some v → Fr s.heap C h (fun y => if y = x then some v else m y) → News s.heap C h own →
      wpAny (model prog w) A (eval elt (compEnvC scope cl C env)) (ElF C s own (G i)) E' { s with heap := h, toks := tk })
    (fin : ∀ D h' tk (ys : Array Value) (fps : List (List (Addr × Obj))), s.heap.get? D = none → h'.PlainList D ys → ys.size = vs.length → fps.length = vs.length →
      (∀ (i : Nat) y f, ys[i]? = some y → fps[i]? = some f → G i y f) → (∀ f ∈ fps, ∀ p ∈ f, s.heap.get? p.1 = none ∧ p.1 ≠ D ∧ h'.get? p.1 = some p.2) →
      fps.Pairwise (fun f g => ∀ p ∈ f, ∀ q ∈ g, p.1 ≠ q.1) → (∀ b o, b ∉ bar → s.heap.get? b = some o → h'.get? b = some o) → Fin D { s with heap := h', toks := tk }) :
    wpAny (model prog w) A (pyIter (.ref l)) (fun it s₂ => (∀ b o, s.heap.get? b = some o → s₂.heap.get? b = some o) ∧ CompAt prog w A env (.Name x px) elt scope cl bar Fin it s₂) E s := by
  refine src_listK G hh hl hz hbar (.inl ⟨_, _, rfl⟩) (fun i v C h tk m E' hv hC hn hk => ?_) fin
  refine wpAny_assign_Name (wpAny_storeName_local (lookup_relabel_local hkx) hn (fun h₂ hn₂ hs₂ => ?_) (by simp [compEnvC, relabel, hkind]))
  have hk₂ : ∀ b o, s.heap.get? b = some o → h₂.get? b = some o := fun b o e => hs₂.extBut b o (Nat.ne_of_lt (Nat.lt_of_lt_of_le (Heap.lt_size e) hC)) (hk b o e)
  refine wpAny_mono (turn i v C h₂ _ m _ E' hv ⟨hn₂, hk₂, hC⟩ (news_rest s.heap h₂ C)) (fun y s₅ h₅ => ?_) fun _ _ e => e
  obtain ⟨h', tk', m', fp, rfl, a1, a2, a3, a4⟩ := ElF.toEnd hk₂ h₅
  refine ⟨h', tk', m', fp, rfl, a1, fun b o hb e => a2 b o hb (hs₂.extBut b o hb e), fun p hp => ⟨?_, (a3 p hp).2⟩, a4⟩
  have hn' := (a3 p hp).1
  cases q : h.get? p.1 with
  | none => rfl
  | some o =>
    by_cases hpC : p.1 = C
    · obtain ⟨oC, _, _, hoC, _⟩ := hn₂
      have hoC' : h₂.get? C = some oC := hoC
      rw [hpC, hoC'] at hn'; cases hn'
    · have := hs₂.extBut _ _ hpC q; rw [this] at hn'; cases hn'
theorem src_listN {l : Addr} {vs : List Value} {x : Str} {px : Pos} (G : Nat → Value → List (Addr × Obj) → Prop) (hh : A.handled = none) (hl : s.heap.IsList l vs.toArray) (hz : vs.length ≤ sizeLine)
    (hbar : ∀ b ∈ bar, ∃ o, s.heap.get? b = some o) (hkx : scope.names.lookup x = some .local) (hkind : scope.kind = .function)
    (turn : ∀ (i : Nat) v C h tk (m : Str → Option Value) own (E' : Value → Shared → Prop), vs[i]? = some v → Fr s.heap C h (fun y => if y = x then some v else m y) → News s.heap C h own →
      wpAny (model prog w) A (eval elt (compEnvC scope cl C env)) (ElF C s own (G i)) E' { s with heap := h, toks := tk })
    (fin : ∀ D h' tk (ys : Array Value) (fps : List (List (Addr × Obj))), s.heap.get? D = none → h'.PlainList D ys → ys.size = vs.length → fps.length = vs.length →
      (∀ (i : Nat) y f, ys[i]? = some y → fps[i]? = some f → G i y f) → (∀ f ∈ fps, ∀ p ∈ f, s.heap.get? p.1 = none ∧ p.1 ≠ D ∧ h'.get? p.1 = some p.2) →
      fps.Pairwise (fun f g => ∀ p ∈ f, ∀ q ∈ g, p.1 ≠ q.1) → (∀ b o, b ∉ bar → s.heap.get? b = some o → h'.get? b = some o) → Fin D { s with heap := h', toks := tk }) :
    wpAny (model prog w) A (pyIter (.ref l)) (CompAt prog w A env (.Name x px) elt scope cl bar Fin) E s := wpAny_mono (src_listNK G hh hl hz hbar hkx hkind turn fin) (fun _ _ h => h.2) fun _ _ e => e
theorem src_rangeNK {r : Addr} {n : Nat} {t₀ u₀ v₀ : Tok} {x : Str} {px : Pos} (G : Nat → Value → List (Addr × Obj) → Prop) (hh : A.handled = none) (hr : IsRange s.heap r 0 (n : Int) 1 t₀ u₀ v₀) (hz : n ≤ 1000)
    (hbar : ∀ b ∈ bar, ∃ o, s.heap.get? b = some o) (hkx : scope.names.lookup x = some .local) (hkind : scope.kind = .function)
    (turn : ∀ (i : Nat) t C h tk (m : Str → Option Value) own (E' : Value → Shared → Prop), i < n → Fr s.heap C h (fun y => if y = x then some (.int (i : Int) t) else m y) → News s.heap C h own →
      wpAny (model prog w) A (eval elt (compEnvC scope cl C env)) (ElF C s own (G i)) E' { s with heap := h, toks := tk })
    (fin : ∀ D h' tk (ys : Array Value) (fps : List (List (Addr × Obj))), s.heap.get? D = none → h'.PlainList D ys → ys.size = n → fps.length = n →
      (∀ (i : Nat) y f, ys[i]? = some y → fps[i]? = some f → G i y f) → (∀ f ∈ fps, ∀ p ∈ f, s.heap.get? p.1 = none ∧ p.1 ≠ D ∧ h'.get? p.1 = some p.2) →
      fps.Pairwise (fun f g => ∀ p ∈ f, ∀ q ∈ g, p.1 ≠ q.1) → (∀ b o, b ∉ bar → s.heap.get? b = some o → h'.get? b = some o) → Fin D { s with heap := h', toks := tk }) :
    wpAny (model prog w) A (pyIter (.ref r)) (fun it s₂ => (∀ b o, s.heap.get? b = some o → s₂.heap.get? b = some o) ∧ CompAt prog w A env (.Name x px) elt scope cl bar Fin it s₂) E s := by
  refine src_rangeK G hh hr hz hbar rfl (fun i t C h tk m E' hi hC hn hk => ?_) fin
  refine wpAny_assign_Name (wpAny_storeName_local (lookup_relabel_local hkx) hn (fun h₂ hn₂ hs₂ => ?_) (by simp [compEnvC, relabel, hkind]))
  have hk₂ : ∀ b o, s.heap.get? b = some o → h₂.get? b = some o := fun b o e => hs₂.extBut b o (Nat.ne_of_lt (Nat.lt_of_lt_of_le (Heap.lt_size e) hC)) (hk b o e)
  refine wpAny_mono (turn i t C h₂ _ m _ E' hi ⟨hn₂, hk₂, hC⟩ (news_rest s.heap h₂ C)) (fun y s₅ h₅ => ?_) fun _ _ e => e
  obtain ⟨h', tk', m', fp, rfl, a1, a2, a3, a4⟩ := ElF.toEnd hk₂ h₅
  refine ⟨h', tk', m', fp, rfl, a1, fun b o hb e => a2 b o hb (hs₂.extBut b o hb e), fun p hp => ⟨?_, (a3 p hp).2⟩, a4⟩
  have hn' := (a3 p hp).1
  cases q : h.get? p.1 with
  | none => rfl
  | some o =>
    by_cases hpC : p.1 = C
    · obtain ⟨oC, _, _, hoC, _⟩ := hn₂
      have hoC' : h₂.get? C = some oC := hoC
      rw [hpC, hoC'] at hn'; cases hn'
    · have := hs₂.extBut _ _ hpC q; rw [this] at hn'; cases hn'
theorem src_rangeN {r : Addr} {n : Nat} {t₀ u₀ v₀ : Tok} {x : Str} {px : Pos} (G : Nat → Value → List (Addr × Obj) → Prop) (hh : A.handled = none) (hr : IsRange s.heap r 0 (n : Int) 1 t₀ u₀ v₀) (hz : n ≤ 1000)
    (hbar : ∀ b ∈ bar, ∃ o, s.heap.get? b = some o) (hkx : scope.names.lookup x = some .local) (hkind : scope.kind = .function)
    (turn : ∀ (i : Nat) t C h tk (m : Str → Option Value) own (E' : Value → Shared → Prop), i < n → Fr s.heap C h (fun y => if y = x then some (.int (i : Int) t) else m y) → News s.heap C h own →
      wpAny (model prog w) A (eval elt (compEnvC scope cl C env)) (ElF C s own (G i)) E' { s with heap := h, toks := tk })
    (fin : ∀ D h' tk (ys : Array Value) (fps : List (List (Addr × Obj))), s.heap.get? D = none → h'.PlainList D ys → ys.size = n → fps.length = n →
      (∀ (i : Nat) y f, ys[i]? = some y → fps[i]? = some f → G i y f) → (∀ f ∈ fps, ∀ p ∈ f, s.heap.get? p.1 = none ∧ p.1 ≠ D ∧ h'.get? p.1 = some p.2) →
      fps.Pairwise (fun f g => ∀ p ∈ f, ∀ q ∈ g, p.1 ≠ q.1) → (∀ b o, b ∉ bar → s.heap.get? b = some o → h'.get? b = some o) → Fin D { s with heap := h', toks := tk }) :
    wpAny (model prog w) A (pyIter (.ref r)) (CompAt prog w A env (.Name x px) elt scope cl bar Fin) E s := wpAny_mono (src_rangeNK G hh hr hz hbar hkx hkind turn fin) (fun _ _ h => h.2) fun _ _ e => e
/-- pairs: for a, b in .. -/
theorem src_list2K {l : Addr} {vs : List Value} {a b : Str} {pa pb tp : Pos} {kk : Nat} (G : Nat → Value → List (Addr × Obj) → Prop) (hh : A.handled = none) (hl : s.heap.IsList l vs.toArray) (hz : vs.length ≤ sizeLine)
    (hbar : ∀ b ∈ bar, ∃ o, s.heap.get? b = some o) (hka : scope.names.lookup a = some .local) (hkb : scope.names.lookup b = some .local) (hkind : scope.kind = .function)
    (hT : ∀ v ∈ vs, ∃ T x y, v = .ref T ∧ s.heap.IsTuple T #[x, y])
    (turn : ∀ (i : Nat) T x y C h tk (m : Str → Option Value) own (E' : Value → Shared → Prop), vs[i]? = some (.ref T) → s.heap.IsTuple T #[x, y] → Fr s.heap C h (fun z => if z = b then some y else if z = a then some x else m z) → News s.heap C h own →
      wpAny (model prog w) A (eval elt (compEnvC scope cl C env)) (ElF C s own (G i)) E' { s with heap := h, toks := tk })
    (fin : ∀ D h' tk (ys : Array Value) (fps : List (List (Addr × Obj))), s.heap.get? D = none → h'.PlainList D ys → ys.size = vs.length → fps.length = vs.length →
      (∀ (i : Nat) y f, ys[i]? = some y → fps[i]? = some f → G i y f) → (∀ f ∈ fps, ∀ p ∈ f, s.heap.get? p.1 = none ∧ p.1 ≠ D ∧ h'.get? p.1 = some p.2) →
      fps.Pairwise (fun f g => ∀ p ∈ f, ∀ q ∈ g, p.1 ≠ q.1) → (∀ b o, b ∉ bar → s.heap.get? b = some o → h'.get? b = some o) → Fin D { s with heap := h', toks := tk }) :
    wpAny (model prog w) A (pyIter (.ref l)) (fun it s₂ => (∀ b o, s.heap.get? b = some o → s₂.heap.get? b = some o) ∧ CompAt prog w A env (.Tuple [.Name a pa, .Name b pb] kk tp) elt scope cl bar Fin it s₂) E s := by
  refine src_listK G hh hl hz hbar (.inr ⟨⟨_, _, _, rfl⟩, fun v hv => by obtain ⟨T, _, _, e, _⟩ := hT v hv; exact ⟨T, e⟩⟩) (fun i v C h tk m E' hv hC hn hk => ?_) fin
  obtain ⟨T, x, y, rfl, ht⟩ := hT v (List.mem_of_getElem? hv)
  have hth : h.IsTuple T #[x, y] := ht.at fun o e => hk T o e
  refine kcp_assign (s := { s with heap := h, toks := tk }) hh hth (lookup_relabel_local hka) (lookup_relabel_local hkb) (by simp [compEnvC, relabel, hkind]) hn fun h₂ tk₂ hn₂ hs₂ => ?_
  have hk₂ : ∀ b o, s.heap.get? b = some o → h₂.get? b = some o := fun b o e => hs₂ b o (Nat.ne_of_lt (Nat.lt_of_lt_of_le (Heap.lt_size e) hC)) (hk b o e)
  refine wpAny_mono (turn i T x y C h₂ _ m _ E' hv ht ⟨hn₂, hk₂, hC⟩ (news_rest s.heap h₂ C)) (fun z s₅ h₅ => ?_) fun _ _ e => e
  obtain ⟨h', tk', m', fp, rfl, a1, a2, a3, a4⟩ := ElF.toEnd hk₂ h₅
  refine ⟨h', tk', m', fp, rfl, a1, fun b o hb e => a2 b o hb (hs₂ b o hb e), fun p hp => ⟨?_, (a3 p hp).2⟩, a4⟩
  have hn' := (a3 p hp).1
  cases q : h.get? p.1 with
  | none => rfl
  | some o =>
    by_cases hpC : p.1 = C
    · obtain ⟨oC, _, _, hoC, _⟩ := hn₂
      have hoC' : h₂.get? C = some oC := hoC
      rw [hpC, hoC'] at hn'; cases hn'
    · have := hs₂ _ _ hpC q; rw [this] at hn'; cases hn'
theorem src_list2 {l : Addr} {vs : List Value} {a b : Str} {pa pb tp : Pos} {kk : Nat} (G : Nat → Value → List (Addr × Obj) → Prop) (hh : A.handled = none) (hl : s.heap.IsList l vs.toArray) (hz : vs.length ≤ sizeLine)
    (hbar : ∀ b ∈ bar, ∃ o, s.heap.get? b = some o) (hka : scope.names.lookup a = some .local) (hkb : scope.names.lookup b = some .local) (hkind : scope.kind = .function)
    (hT : ∀ v ∈ vs, ∃ T x y, v = .ref T ∧ s.heap.IsTuple T #[x, y])
    (turn : ∀ (i : Nat) T x y C h tk (m : Str → Option Value) own (E' : Value → Shared → Prop), vs[i]? = some (.ref T) → s.heap.IsTuple T #[x, y] → Fr s.heap C h (fun z => if z = b then some y else if z = a then some x else m z) → News s.heap C h own →
      wpAny (model prog w) A (eval elt (compEnvC scope cl C env)) (ElF C s own (G i)) E' { s with heap := h, toks := tk })
    (fin : ∀ D h' tk (ys : Array Value) (fps : List (List (Addr × Obj))), s.heap.get? D = none → h'.PlainList D ys → ys.size = vs.length → fps.length = vs.length →
      (∀ (i : Nat) y f, ys[i]? = some y → fps[i]? = some f → G i y f) → (∀ f ∈ fps, ∀ p ∈ f, s.heap.get? p.1 = none ∧ p.1 ≠ D ∧ h'.get? p.1 = some p.2) →
      fps.Pairwise (fun f g => ∀ p ∈ f, ∀ q ∈ g, p.1 ≠ q.1) → (∀ b o, b ∉ bar → s.heap.get? b = some o → h'.get? b = some o) → Fin D { s with heap := h', toks := tk }) :
    wpAny (model prog w) A (pyIter (.ref l)) (CompAt prog w A env (.Tuple [.Name a pa, .Name b pb] kk tp) elt scope cl bar Fin) E s := wpAny_mono (src_list2K G hh hl hz hbar hka hkb hkind hT turn fin) (fun _ _ h => h.2) fun _ _ e => e
end
end Mine

end -- C4
local macro_rules | `(tactic| walk_at "mine_lc") => `(tactic| (k_here; (refine' comp_eval ?hclos ?hcell ?hkind ?hnames ?hs ?_; (try (case hclos => exact rfl)); (try (case hcell => decide)); (try (case hkind => exact rfl)); (try (case hnames => decide)); (try (case hs => (intro _; rfl))))))
local macro_rules | `(tactic| walk_at "mine_name") => `(tactic| (k_here; k_inBlock; k_dflt (first | (refine' nameCL ?kF ?kx ?kk ?kd ?kv ?_; (case kF => k_asm); (case kx => exact rfl); (case kk => exact rfl); (case kd => decide); (case kv => exact rfl); k_whole) | (refine' nameCC ?kF ?kN ?kx ?kk ?kd ?kc ?km ?ko ?_; (case kF => k_asm); (case kN => k_asm); (case kx => exact rfl); (case kk => exact rfl); (case kd => decide); (case kc => exact rfl); (case km => k_mem); (case ko => k_asm); k_whole))))
local macro_rules | `(tactic| walk_at "mine_len") => `(tactic| (k_here; (with_reducible show wpAny _ _ (call (Value.builtin "len") [Value.ref _]) _ _ _); (with_reducible rename Fr _ _ _ _ => kF'); refine len_L (keepL kF'.keep (by assumption)) (by omega) ?_; (try dsimp only)))
local macro_rules | `(tactic| walk_at "mine_for") => `(tactic| (k_here; (with_reducible rename Fr _ _ _ _ => lF'); (with_unfolding_all refine' For_invVF lF' ?k1 ?k2 ?_; (case k1 => exact rfl); (case k2 => exact rfl); k_whole)))
local macro_rules | `(tactic| walk_at "mine_app") => `(tactic| (k_here; (with_reducible show wpAny _ _ (call (Value.builtin _) [Value.ref _, _]) _ _ _); k_dflt (refine' append_K ?k1 ?k2 ?k3 ?_ ?z; (case k1 => k_asm); (case k2 => k_asm); (case k3 => k_upd); (case z => ((simp only [Array.size_push, List.size_toArray]); rw [sizeLine_eq]; omega)); k_whole); intro h' F' N'; (try k_sweep)))
theorem Mine.pad_D1 : Mine.PadG := by first | (walk1; fail "pad") | exact trivial
section -- D1
open PySem PySem.W PySem.Calls PyProof.Rows
set_option maxRecDepth 100000
set_option maxHeartbeats 8000000
namespace Mine
theorem dummyd1 (w : World) (h : Heap) : (hd.heap_1 w.params).In h → PySem.Challenge.rw_nq0028_01.Holds → True := by
  k_fill
  intro _ _; trivial
section
variable {w : World} {dp un : Nat} {fr : Option (List Env)} {gd : Option (List Code)} {Q E : Value → Shared → Prop} {s : Shared} {mean : ExcName → Option Value} {mg mb : Str → Option Value} {A : Around} {b : Array UInt8} {t u : Tok}
theorem oct7 (x : Int) (a b c d e f g : Tok) : OctIn [Value.int 248 a, Value.int 255 b, Value.int 247 c, Value.int 252 d, Value.int 251 e, Value.int 0 f, Value.int (x.fmod 256) g] := by
  intro v hv
  simp only [List.mem_cons, List.not_mem_nil, or_false] at hv
  rcases hv with rfl | rfl | rfl | rfl | rfl | rfl | rfl
  all_goals exact ⟨_, _, rfl, by first | decide | exact fmod_lo _ (by decide), by first | decide | exact fmod_hi _ (by decide)⟩
theorem getD7 (x : Int) (j : Nat) : 0 ≤ [248, 255, 247, 252, 251, 0, x.fmod 256].getD j 0 ∧ [248, 255, 247, 252, 251, 0, x.fmod 256].getD j 0 < 256 := by
  match j with
  | 0 | 1 | 2 | 3 | 4 | 5 => simp
  | 6 => exact ⟨fmod_lo _ (by decide), fmod_hi _ (by decide)⟩
  | n + 7 => exact ⟨by simp, by simp⟩
local macro_rules | `(tactic| walk_at "call builtin:len") => `(tactic| (walk_at "mine_len"))
local macro_rules | `(tactic| walk_at "subscriptTail") => `(tactic| (k_here; (with_reducible show wpAny _ _ (subscriptTail _ _ (Value.ref _) (Value.int _ _)) _ _ _); (with_reducible rename Fr _ _ _ _ => kF'); first | (refine row_item (keepL kF'.keep (by assumption)) (by assumption) (fmod_lo _ (by omega)) (fmod_hi _ (by omega)) (by omega) ?_ (by with_unfolding_all rfl); intro b9 t9 hb9; (try dsimp only)) | (refine oct_item (keepL kF'.keep (by assumption)) (oct7 _ _ _ _ _ _ _ _) (fmod_lo _ (by decide)) (fmod_hi _ (by decide)) (by decide) ?_ (by with_unfolding_all rfl); intro k9 t9 hb9 hc9; (try dsimp only))))
local macro_rules | `(tactic| walk_at "eval ListComp") => `(tactic| (walk_at "mine_lc"))
local macro_rules | `(tactic| walk_at "eval Name") => `(tactic| (walk_at "mine_name"))
theorem pow7 {i : Nat} (h : i < 4) : (7 : Int) ^ (i : Int).toNat ≠ 0 ∧ ((7 : Int) ^ (i : Int).toNat).natAbs.log2 < 9000 := by
  have : ∀ j : Fin 4, (7 : Int) ^ ((j.1 : Nat) : Int).toNat ≠ 0 ∧ ((7 : Int) ^ ((j.1 : Nat) : Int).toNat).natAbs.log2 < 9000 := by decide +kernel
  exact this ⟨i, h⟩
local macro_rules | `(tactic| walk_at "binaryOp FloorDiv int int") => `(tactic| (k_here; (with_reducible refine floordiv_int (pow7 (by omega)).1 ?_ (Or.inl (PyProof.noPylong_of_log2 (pow7 (by omega)).2)))))
theorem row_spec {q : Int} {v : Tok} {l : Addr} {vs : List Value}
    (X : (hd.heap_1 w.params).In s.heap) (T : TT mean mg mb s.heap) (hd : dp < 950) (hl : s.heap.IsList l vs.toArray) (hr : RowsIn 6 vs) (hpos : 0 < vs.length) (hlen : vs.length ≤ 100)
    (hQ : ∀ b t h' tk, Keep s.heap h' → (KBw.bInts b).length ≤ 9 → Q (.bytes b t) { s with heap := h', toks := tk }) :
    wpAny (model PG w) (AA dp un fr gd) (call (.ref 139) [.int q v, .ref l]) Q E s := by
  refine' enter_cells (binds := [(Str.ofString "q", .int q v), (Str.ofString "heads", .ref l)]) ?kX ?kT ?k6 ?k7 ?k8 ?k9 ?kB ?kD ?_ ?c2 ?c3 ?c4
  k_dflt (walk_at "mine_centr")
  k_steps
  all_goals (try dsimp only)
  rename IsRange _ _ _ _ _ _ _ _ => hR
  have hk0 : 0 ≤ (q.fdiv vs.length).fmod 4 := fmod_lo _ (by decide)
  have hk1 : (q.fdiv vs.length).fmod 4 < 4 := fmod_hi _ (by decide)
  rw [← Int.toNat_of_nonneg hk0] at hR
  (with_reducible rename Fr _ _ _ _ => F1)
  (with_reducible rename News _ _ _ _ => N1)
  have hO := News.isList N1 (List.Mem.head _)
  refine src_rangeN (fun _ y fp => (∃ k t, y = .int k t ∧ 0 ≤ k ∧ k < 256)) rfl hR (by omega) (by intro b hb; cases hb) rfl rfl ?_ ?_
  · intro i t C h tk m own E' hi FC NC
    have hi4 : i < 4 := by omega
    have X' := X.keeps F1.keep
    have T' := Top.keeps T F1.keep
    k_steps
    all_goals (try dsimp only)
    exact ElF.flat FC NC (fun _ h => h) ⟨_, _, rfl, (getD7 _ _).1, (getD7 _ _).2⟩
  · intro D h' tk ys fps hD hpl hy hf hG hF hPw hk
    dsimp only
    have hk' : Keep _ h' := fun b o e => hk b o (by simp) e
    have F2 := Fr.keptAll F1 hk'
    have N2 := News.grown N1 hk'
    obtain ⟨ns, hi, hin, hnl⟩ := octs_of fun i y hy' => by
      have hlt : i < fps.length := by rw [hf, ← hy]; exact (Array.getElem?_eq_some_iff.mp hy').1
      exact hG i y _ hy' (List.getElem?_eq_getElem hlt)
    obtain ⟨nD, hDg⟩ := hpl
    have hDn : s.heap.get? D = none := by
      cases e : s.heap.get? D with
      | none => rfl
      | some o => rw [F1.keep D o e] at hD; cases hD
    have N3 := News.more F2 N2 hDg (by intro es n e; cases e) hDn
    clear N1 N2 F1
    k_steps
    k_unmd
    refine KBa.add_K rfl (KBa.ints_make hin) (by omega) ?_
    intro t' k' e'
    dsimp only
    refine hQ _ _ _ _ (Fr.keep (by assumption)) ?_
    rw [e', List.length_append]
    omega
end
end Mine

end -- D1
theorem Mine.pad_C5 : Mine.PadG := by first | (walk1; fail "pad") | exact trivial
section -- C5
open PySem PySem.W PySem.Calls PyProof.Rows PyProof.V
set_option maxRecDepth 100000
set_option maxHeartbeats 4000000
namespace Mine
/-- a turn's end of a for: what is told of the ledger; all names but the stored ones are as they were -/
noncomputable def LpEnd (h₀ : Heap) (L : Addr) (x : Str) (stored : List Str) (m₀ : Str → Option Value) (J : List (Addr × Obj) → Prop) (own : List (Addr × Obj)) (s₁ : Shared) (Q : Flow → Shared → Prop) (f : Flow) (s₂ : Shared) : Prop :=
  match f with
  | .ret v => Q (.ret v) s₂
  | .brk => Q .next s₂
  | _ => ∃ h' tk m' news' nx, s₂ = { s₁ with heap := h', toks := tk } ∧ Fr h₀ L h' m' ∧ News h₀ L h' news' ∧ (∀ p ∈ nx, p ∈ news') ∧ (∀ p ∈ own, p ∈ news') ∧ OwnOff own (nx.map (·.1)) ∧
      (∀ z, z ≠ x → stored.contains z = false → m' z = m₀ z) ∧ J nx
theorem OwnOff.byCls {h₀ h' : Heap} {L : Addr} {own news' : List (Addr × Obj)} {c : Value} {as : List Addr} (N : News h₀ L h' news') (ho : ∀ p ∈ own, p ∈ news') (hc : ∀ p ∈ own, p.2.cls = c) (ha : ∀ a ∈ as, (∀ p ∈ own, p.1 ≠ a) ∨ ∃ o, (a, o) ∈ news' ∧ o.cls ≠ c) : OwnOff own as := by
  intro p hp b hb e
  rcases ha b hb with h | ⟨o, hm, hne⟩
  · exact h p hp e
  · have h1 := (N p (ho p hp)).1
    have h2 := (N _ hm).1
    dsimp only at h2
    rw [e, h2] at h1
    cases h1
    exact hne (hc p hp)
section
variable {prog : Program} {w : World} {A : Around} {E : Value → Shared → Prop} {s s₁ : Shared} {env : Env} {h₀ h' : Heap} {x : Str} {body : List Stmt} {Q : Flow → Shared → Prop} {stored : List Str} {m₀ m' : Str → Option Value} {L : Addr} {own news' nx : List (Addr × Obj)} {tk : Nat}
theorem LpEnd.next {J : List (Addr × Obj) → Prop} (F : Fr h₀ L h' m') (N : News h₀ L h' news') (hj : J nx) (hn : ∀ p ∈ nx, p ∈ news') (ho : ∀ p ∈ own, p ∈ news') (ha : OwnOff own (nx.map (·.1)))
    (hm : ∀ z, z ≠ x → stored.contains z = false → m' z = m₀ z) : LpEnd h₀ L x stored m₀ J own s₁ Q .next { s₁ with heap := h', toks := tk } := ⟨h', tk, m', news', nx, rfl, F, N, hn, ho, ha, hm, hj⟩
theorem LpEnd.cont {J : List (Addr × Obj) → Prop} (F : Fr h₀ L h' m') (N : News h₀ L h' news') (hj : J nx) (hn : ∀ p ∈ nx, p ∈ news') (ho : ∀ p ∈ own, p ∈ news') (ha : OwnOff own (nx.map (·.1)))
    (hm : ∀ z, z ≠ x → stored.contains z = false → m' z = m₀ z) : LpEnd h₀ L x stored m₀ J own s₁ Q .cont { s₁ with heap := h', toks := tk } := ⟨h', tk, m', news', nx, rfl, F, N, hn, ho, ha, hm, hj⟩
theorem LpEnd.ret {J : List (Addr × Obj) → Prop} {v : Value} {s₂ : Shared} (h : Q (.ret v) s₂) : LpEnd h₀ L x stored m₀ J own s₁ Q (.ret v) s₂ := h
theorem for_walk {I : Addr} {fp wr : List Addr} {n : Nat} {P : Nat → Value → Prop} {St : Nat → Heap → Prop} {news : List (Addr × Obj)} (W : Walks prog w A I fp wr n P St) (stored : List Str) (J : Nat → List (Addr × Obj) → Prop) (KO : Obj → Prop) (hKO : ∀ i h b o, St i h → b ∈ wr → h.get? b = some o → KO o)
    (hLf : env.locals ∉ fp) (hwr : ∀ b ∈ wr, h₀.get? b = none) (hfp : ∀ b ∈ fp, b ∈ wr ∨ ∃ o, h₀.get? b = some o) (hlive : ∀ i h, St i h → ∀ b ∈ wr, ∃ o, h.get? b = some o) (hnw : ∀ p ∈ news, p.1 ∉ wr) (hst : St 0 s.heap)
    (F : Fr h₀ env.locals s.heap m₀) (N : News h₀ env.locals s.heap news) (hj : J 0 news)
    (turn : ∀ i v (u : Str → Option Value) nx h tk own, i < n → P i v → OwnOff own (nx.map (·.1)) → (∀ p ∈ own, KO p.2) → J i nx → Fr h₀ env.locals h (fun y => if y = x then some v else if stored.contains y then u y else m₀ y) → News h₀ env.locals h (nx ++ own) →
      wpAny (model prog w) A (execs body env) (LpEnd h₀ env.locals x stored m₀ (J (i + 1)) own { s with heap := h, toks := tk } Q) E { s with heap := h, toks := tk })
    (done : ∀ (u : Str → Option Value) nx h tk, J n nx → Fr h₀ env.locals h (fun y => if y = x then u y else if stored.contains y then u y else m₀ y) → News h₀ env.locals h nx → Q .next { s with heap := h, toks := tk }) :
    LoopAtV prog w A h₀ env x body Q E (.ref I) s := by
  have norm : ∀ {m : Str → Option Value} (v : Value), (∀ z, z ≠ x → stored.contains z = false → m z = m₀ z) → (fun y => if y = x then some v else m y) = fun y => if y = x then some v else if stored.contains y then m y else m₀ y := by
    intro m v hm
    funext y
    by_cases h1 : y = x
    · simp [h1]
    · simp only [if_neg h1]
      cases h2 : stored.contains y with
      | true => simp
      | false => simp [hm y h1 h2]
  have norm' : ∀ {m : Str → Option Value}, (∀ z, z ≠ x → stored.contains z = false → m z = m₀ z) → m = fun y => if y = x then m y else if stored.contains y then m y else m₀ y := by
    intro m hm
    funext y
    by_cases h1 : y = x
    · simp [h1]
    · simp only [if_neg h1]
      cases h2 : stored.contains y with
      | true => simp
      | false => simp [hm y h1 h2]
  refine ⟨I, fp, wr, n, P, St, m₀, news, fun i m nx => (∀ z, z ≠ x → stored.contains z = false → m z = m₀ z) ∧ J i nx, rfl, W, hLf, hwr, hnw, hst, F, N, ⟨fun _ _ _ => rfl, hj⟩, ?_, ?_⟩
  · rintro i v m₁ nx s₁ own ⟨hh', tk', rfl⟩ hin hP ⟨hm, hJ⟩ hoff hown _ hmem hst' F₁ N₁
    have hsep : OwnOff own (nx.map (·.1)) := by
      intro p hp b hb e
      obtain ⟨q, hq, rfl⟩ := List.mem_map.mp hb
      rcases hfp _ (hown p hp) with h1 | ⟨o, ho⟩
      · exact hoff q hq (e ▸ h1)
      · have h3 := (N₁ q (List.mem_append.mpr (.inr hq))).2.2
        rw [← e, ho] at h3
        cases h3
    have hko : ∀ p ∈ own, KO p.2 := fun p hp => by
      have hN := N₁ p (List.mem_append.mpr (.inl hp))
      rcases hfp _ (hown p hp) with h1 | ⟨o, ho⟩
      · exact hKO _ _ _ _ hst' h1 hN.1
      · rw [hN.2.2] at ho; cases ho
    have N₂ : News h₀ env.locals hh' (nx ++ own) := fun p hp => N₁ p ((List.mem_append.mp hp).elim (fun h => List.mem_append.mpr (.inr h)) fun h => List.mem_append.mpr (.inl h))
    rw [norm v hm] at F₁
    refine wpAny_mono (turn i v m₁ nx hh' tk' own hin hP hsep hko hJ F₁ N₂) (fun f s₂ p => ?_) fun _ _ e => e
    have fin : (∃ h' tk m' news' nx', s₂ = { s with heap := h', toks := tk } ∧ Fr h₀ env.locals h' m' ∧ News h₀ env.locals h' news' ∧ (∀ p ∈ nx', p ∈ news') ∧ (∀ p ∈ own, p ∈ news') ∧ OwnOff own (nx'.map (·.1)) ∧
      (∀ z, z ≠ x → stored.contains z = false → m' z = m₀ z) ∧ J (i + 1) nx') → LoopStepU h₀ env.locals wr own (fun m nx => (∀ z, z ≠ x → stored.contains z = false → m z = m₀ z) ∧ J (i + 1) nx) { s with heap := hh', toks := tk' } .next s₂ := by
      rintro ⟨h', tk, m', news', nx', e, F', N', hn, ho, ha, hm', hj'⟩
      refine ⟨rfl, h', tk, m', nx', e, F', fun p hp => N' p ((List.mem_append.mp hp).elim (ho p) (hn p)), fun p hp hq => ?_, hm', hj'⟩
      obtain ⟨o, hbo⟩ := hlive _ _ hst' _ hq
      exact ha _ (hmem _ (W.sub _ hq) (hwr _ hq) o hbo) p.1 (List.mem_map.mpr ⟨p, hp, rfl⟩) rfl
    cases f with
    | ret v => exact .ret p
    | brk => exact .brk p
    | next => exact .next (fin p)
    | cont => exact .cont (fin p)
  · rintro h' tk m' nx F' N' _ ⟨hm, hJ⟩
    rw [norm' hm] at F'
    exact done m' nx h' tk hJ F' N'
/-- for x in a list that stood at the call -/
theorem for_list {l : Addr} {vs : List Value} {news : List (Addr × Obj)} (stored : List Str) (J : Nat → List (Addr × Obj) → Prop) (hh : A.handled = none) (hl : h₀.IsList l vs.toArray) (F : Fr h₀ env.locals s.heap m₀) (N : News h₀ env.locals s.heap news) (hj : J 0 news)
    (turn : ∀ i v (u : Str → Option Value) nx h tk own, vs[i]? = some v → OwnOff own (nx.map (·.1)) → (∀ p ∈ own, p.2.cls = .type "list_iterator") → J i nx → Fr h₀ env.locals h (fun y => if y = x then some v else if stored.contains y then u y else m₀ y) → News h₀ env.locals h (nx ++ own) →
      wpAny (model prog w) A (execs body env) (LpEnd h₀ env.locals x stored m₀ (J (i + 1)) own { s with heap := h, toks := tk } Q) E { s with heap := h, toks := tk })
    (done : ∀ (u : Str → Option Value) nx h tk, J vs.length nx → Fr h₀ env.locals h (fun y => if y = x then u y else if stored.contains y then u y else m₀ y) → News h₀ env.locals h nx → Q .next { s with heap := h, toks := tk }) :
    wpAny (model prog w) A (pyIter (.ref l)) (fun it s₂ => LoopAtV prog w A h₀ env x body Q E it s₂) E s := by
  have hls : s.heap.IsList l vs.toArray := hl.at fun o e => F.keep l o e
  obtain ⟨ol, hol, _⟩ := id hl
  have hlt : l < h₀.objs.size := Heap.lt_size hol
  have hne : l ≠ s.heap.objs.size := Nat.ne_of_lt (Nat.lt_trans (Nat.lt_of_lt_of_le hlt F.above) F.ns.lt)
  refine wpAny_pyIter_list hls ?_
  have W := Walks.list (prog := prog) (w := w) hh s.heap.objs.size l hne vs.toArray
  have hI : h₀.get? s.heap.objs.size = none := next_is_new F
  refine for_walk W stored J (fun o => o.cls = .type "list_iterator") (by rintro i h b o ⟨⟨o', ho', hc, _⟩, _⟩ hb e; rw [List.mem_singleton.mp hb, ho'] at e; cases e; exact hc) ?_ ?_ ?_ ?_ ?_ ⟨⟨_, Heap.get?_push_size _ rfl, rfl, rfl⟩, hls.at fun o e => Heap.get?_push_of_some _ e⟩ (F.push _) (fun p hp => ⟨Heap.get?_push_of_some _ (N p hp).1, (N p hp).2⟩) hj ?_ ?_
  · intro hm
    rcases List.mem_cons.mp hm with e | hm
    · exact absurd F.ns.lt (e ▸ Nat.lt_irrefl _)
    · exact absurd (Nat.lt_of_lt_of_le hlt F.above) ((List.mem_singleton.mp hm) ▸ Nat.lt_irrefl _)
  · intro b hb
    rw [List.mem_singleton.mp hb]; exact hI
  · intro b hb
    rcases List.mem_cons.mp hb with e | hm
    · exact .inl (List.mem_singleton.mpr e)
    · exact .inr ⟨ol, (List.mem_singleton.mp hm) ▸ hol⟩
  · rintro i h ⟨⟨o, ho, _⟩, _⟩ b hb
    rw [List.mem_singleton.mp hb]; exact ⟨o, ho⟩
  · intro p hp hI
    exact absurd (Heap.lt_size (N p hp).1) ((List.mem_singleton.mp hI) ▸ Nat.lt_irrefl _)
  · intro i v u nx h tk own hi hP hoff hko hJ F₁ N₁
    exact turn i v u nx h tk own (by simpa using hP) hoff hko hJ F₁ N₁
  · intro u nx h tk hJ F₁ N₁
    exact done u nx h tk (by simpa using hJ) F₁ N₁
/-- for x in range(n) -/
theorem for_range {r : Addr} {n : Nat} {t₀ u₀ v₀ : Tok} {news : List (Addr × Obj)} (stored : List Str) (J : Nat → List (Addr × Obj) → Prop) (hh : A.handled = none) (hr : IsRange s.heap r 0 (n : Int) 1 t₀ u₀ v₀) (hz : n ≤ 1000) (F : Fr h₀ env.locals s.heap m₀) (N : News h₀ env.locals s.heap news) (hj : J 0 news)
    (turn : ∀ (i : Nat) t (u : Str → Option Value) nx h tk own, i < n → OwnOff own (nx.map (·.1)) → (∀ p ∈ own, p.2.cls = .type "range_iterator") → J i nx → Fr h₀ env.locals h (fun y => if y = x then some (.int (i : Int) t) else if stored.contains y then u y else m₀ y) → News h₀ env.locals h (nx ++ own) →
      wpAny (model prog w) A (execs body env) (LpEnd h₀ env.locals x stored m₀ (J (i + 1)) own { s with heap := h, toks := tk } Q) E { s with heap := h, toks := tk })
    (done : ∀ (u : Str → Option Value) nx h tk, J n nx → Fr h₀ env.locals h (fun y => if y = x then u y else if stored.contains y then u y else m₀ y) → News h₀ env.locals h nx → Q .next { s with heap := h, toks := tk }) :
    wpAny (model prog w) A (pyIter (.ref r)) (fun it s₂ => LoopAtV prog w A h₀ env x body Q E it s₂) E s := by
  have hsize : Builtin.Range.rangeSize 0 (n : Int) 1 = (n : Int) := by
    unfold Builtin.Range.rangeSize
    simp; omega
  have fits : ∀ x : Int, 0 ≤ x → x ≤ 1000 → Builtin.Range.rangeFitsLong x = true := fun x h0 h1 => by
    unfold Builtin.Range.rangeFitsLong
    simp only [Bool.and_eq_true, decide_eq_true_eq]; omega
  have hsmall : Builtin.Range.small 0 (n : Int) 1 = true := by
    unfold Builtin.Range.small
    rw [hsize, fits 0 (by decide) (by decide), fits n (by omega) (by omega), fits 1 (by decide) (by decide)]
    simp
    right
    exact fits _ (by omega) (by omega)
  refine wpAny_pyIter_range hr hsmall ?_
  rw [hsize]
  have W := Walks.range (prog := prog) (w := w) hh s.heap.objs.size 0 1 n
  have hI : h₀.get? s.heap.objs.size = none := next_is_new F
  refine for_walk W stored J (fun o => o.cls = .type "range_iterator") (by intro i h b o ho hb e; have ho' := ho; unfold IsRangeIter at ho'; rw [List.mem_singleton.mp hb, ho'] at e; cases e; rfl) ?_ ?_ ?_ ?_ ?_ ?_ (F.push _) (fun p hp => ⟨Heap.get?_push_of_some _ (N p hp).1, (N p hp).2⟩) hj ?_ done
  · intro hm
    exact absurd F.ns.lt ((List.mem_singleton.mp hm) ▸ Nat.lt_irrefl _)
  · intro b hb
    rw [List.mem_singleton.mp hb]; exact hI
  · intro b hb
    exact .inl hb
  · intro i h ho b hb
    rw [List.mem_singleton.mp hb]; exact ⟨_, ho⟩
  · intro p hp hI
    exact absurd (Heap.lt_size (N p hp).1) ((List.mem_singleton.mp hI) ▸ Nat.lt_irrefl _)
  · show IsRangeIter _ _ _ _ _
    have := Heap.get?_push_size s.heap (o := { cls := .type "range_iterator", data := .fields #[rawInt 0, rawInt (n : Int), rawInt 1] }) rfl
    simpa [IsRangeIter] using this
  · rintro i v u nx h tk own hi ⟨t, rfl⟩ hoff hko hJ F₁ N₁
    have e : (0 : Int) + (i : Nat) * 1 = (i : Int) := by omega
    rw [e] at F₁
    exact turn i t u nx h tk own hi hoff hko hJ F₁ N₁
end
end Mine

end -- C5
theorem Mine.pad_D2 : Mine.PadG := by first | (walk1; fail "pad") | exact trivial
section -- D2
open PySem PySem.W PySem.Calls PyProof.Rows
set_option maxRecDepth 100000
set_option maxHeartbeats 8000000
namespace Mine
theorem dummyd2 (w : World) (h : Heap) : (hd.heap_1 w.params).In h → PySem.Challenge.rw_nq0028_01.Holds → True := by
  k_fill
  intro _ _; trivial
theorem RowsIn.snoc {m : Nat} {vs : List Value} {b : Array UInt8} {t : Tok} (h : RowsIn m vs) (hb : (KBw.bInts b).length ≤ m) : RowsIn m (vs ++ [.bytes b t]) := by
  intro v hv
  rcases List.mem_append.mp hv with hv | hv
  · exact h v hv
  · exact ⟨b, t, List.mem_singleton.mp hv, hb⟩
theorem pushL (vs : List Value) (v : Value) : vs.toArray.push v = (vs ++ [v]).toArray := by simp
theorem ints_all {vs : List Value} {ns : List Int} (h : IntsAre vs ns) : ∀ v ∈ vs, ∃ n t, v = Value.int n t := by
  induction h with
  | nil => intro v hv; cases hv
  | cons k t _ ih =>
    intro v hv
    rcases List.mem_cons.mp hv with rfl | hv
    · exact ⟨_, _, rfl⟩
    · exact ih v hv
theorem any36 {ks : List Int} (h : ([3, 6].any fun x => x == ((ks.length : Nat) : Int)) = true) : ks.length ≤ 6 := by
  simp at h; omega
theorem any36' {b : Array UInt8} {ks : List Int} (hb : KBw.bInts b = ks) (h : ([3, 6].any fun x => x == ((ks.length : Nat) : Int)) = true) : (KBw.bInts b).length ≤ 6 := by rw [hb]; exact any36 h
theorem sub5 {α : Type} (l : List α) {own : List α} : ∀ p ∈ l, p ∈ l ++ own := fun _ hp => List.mem_append_left _ hp
theorem own5 {α : Type} (l : List α) {own : List α} : ∀ p ∈ own, p ∈ l ++ own := fun _ hp => List.mem_append_right _ hp
theorem sub6 {α : Type} {a : α} (l : List α) {own : List α} : ∀ p ∈ l, p ∈ a :: (l ++ own) := fun _ hp => .tail _ (List.mem_append_left _ hp)
theorem own6 {α : Type} {a : α} (l : List α) {own : List α} : ∀ p ∈ own, p ∈ a :: (l ++ own) := fun _ hp => .tail _ (List.mem_append_right _ hp)
theorem mem_rot {α : Type} (l : List α) {d : α} {r s : List α} : ∀ p ∈ l ++ (d :: r), p ∈ d :: (l ++ (r ++ s)) := fun _ hp => by
  rcases List.mem_append.mp hp with h | h
  · exact .tail _ (List.mem_append_left _ h)
  · rcases List.mem_cons.mp h with h | h
    · exact h ▸ .head _
    · exact .tail _ (List.mem_append_right _ (List.mem_append_left _ h))
theorem own_ne {h₀ h : Heap} {L : Addr} {news : List (Addr × Obj)} {p d : Addr × Obj} {c : Value} (N : News h₀ L h news) (hp : p ∈ news) (hd : d ∈ news) (e : p.2.cls = c) (hc : d.2.cls ≠ c) : p.1 ≠ d.1 := fun h => hc (by
  have a := (N p hp).1
  rw [h, (N d hd).1] at a
  rw [Option.some.inj a, e])
theorem off_rot {own : List (Addr × Obj)} {l l' r : List (Addr × Obj)} {d : Addr × Obj} (hoff : OwnOff own ((l ++ r).map (·.1))) (hl : l'.map (·.1) = l.map (·.1)) (hd : ∀ p ∈ own, p.1 ≠ d.1) : OwnOff own ((l' ++ d :: r).map (·.1)) := fun p hp b hb => by
  rw [List.map_append, hl] at hb
  rw [List.map_append] at hoff
  rcases List.mem_append.mp hb with hb | hb
  · exact hoff p hp b (List.mem_append_left _ hb)
  · rcases List.mem_cons.mp hb with hb | hb
    · exact hb ▸ hd p hp
    · exact hoff p hp b (List.mem_append_right _ hb)
/-- objects of one class lie off the lists -/
theorem off_lists {h₀ h : Heap} {L : Addr} {tps own l : List (Addr × Obj)} (N : News h₀ L h (l ++ (tps ++ own))) (hl : ∀ q ∈ l, q.2.cls = .type "list") (ht : ∀ p ∈ tps, p.2.cls = .type "tuple") (ho : OwnOff own ((l ++ tps).map (·.1))) : OwnOff (tps ++ own) (l.map (·.1)) := by
  intro p hp b hb
  rcases List.mem_append.mp hp with hp | hp
  · obtain ⟨q, hq, e⟩ := List.mem_map.mp hb
    exact e ▸ own_ne N (List.mem_append_right _ (List.mem_append_left _ hp)) (List.mem_append_left _ hq) (ht p hp) (by rw [hl q hq]; decide)
  · exact ho p hp b (by rw [List.map_append]; exact List.mem_append_left _ hb)
/-- the five lists of _law_drawn while it draws -/
noncomputable def DrawJ (AS TL T1 T0 H : Addr) (i : Nat) (nx : List (Addr × Obj)) : Prop :=
  ∃ (a0 a1 hs : List Value) (n0 n1 nh : Nat), nx = [(AS, listOf #[] 0), (TL, listOf #[.ref T0, .ref T1] 0), (T1, listOf a1.toArray n1), (T0, listOf a0.toArray n0), (H, listOf hs.toArray nh)] ∧
    RowsIn 9 a0 ∧ RowsIn 9 a1 ∧ RowsIn 6 hs ∧ 0 < a0.length ∧ a0.length ≤ 1 + i ∧ 0 < a1.length ∧ a1.length ≤ 1 + i ∧ 0 < hs.length ∧ hs.length ≤ 2 + i
theorem told_item {w : World} {Q E : Value → Shared → Prop} {s : Shared} {A : Around} {l : Addr} {x y : Value} {value slice : Expr} {k : Int} {u : Tok} (hl : s.heap.IsList l #[x, y]) (h0 : 0 ≤ k) (h1 : k < 2) (h : ∀ v, v = x ∨ v = y → Q v s)
    (hs : subscripted slice false (.ref l) (.int k u) = operate [.ref l, .int k u] (getItem (.ref l) (.int k u))) : wpAny (model PG w) A (subscriptTail value slice (.ref l) (.int k u)) Q E s := by
  refine item_L (vs := [x, y]) hl h0 (by simpa using h1) (by simp) (fun v hv => ?_) hs
  have : k.toNat = 0 ∨ k.toNat = 1 := by omega
  rcases this with e | e <;> rw [e] at hv <;> simp at hv
  · exact h v (.inl hv.symm)
  · exact h v (.inr hv.symm)
theorem news_mid5 {h₀ h : Heap} {L : Addr} {a b c d e f g : Addr × Obj} (N : News h₀ L h [a, b, c, d, e, f, g]) : News h₀ L h [b, c, d, e, f] := fun p hp => N p (by
  simp only [List.mem_cons, List.not_mem_nil, or_false] at hp ⊢
  rcases hp with h | h | h | h | h <;> simp [h])
noncomputable abbrev tupOf (vs : Array Value) : Obj := { cls := .type "tuple", data := .seq vs }
noncomputable def FileIn (y : Value) : Prop := y = .none ∨ ∃ c u, y = .bytes c u ∧ (KBw.bInts c).length ≤ 9
noncomputable def AsksIn (tps : List (Addr × Obj)) (as : List Value) : Prop := ∀ v ∈ as, ∃ T b t y, v = .ref T ∧ (T, tupOf #[.bytes b t, y]) ∈ tps ∧ (KBw.bInts b).length ≤ 9 ∧ FileIn y
noncomputable def AskJ (AS TL T1 T0 H : Addr) (a0 a1 hs : List Value) (n0 n1 nh : Nat) (i : Nat) (nx : List (Addr × Obj)) : Prop :=
  ∃ (as : List Value) (na : Nat) (tps : List (Addr × Obj)), nx = (AS, listOf as.toArray na) :: (TL, listOf #[.ref T0, .ref T1] 0) :: (T1, listOf a1.toArray n1) :: (T0, listOf a0.toArray n0) :: (H, listOf hs.toArray nh) :: tps ∧
    as.length ≤ i ∧ (∀ p ∈ tps, p.2.cls = .type "tuple") ∧ AsksIn tps as
theorem askOff {h₀ h : Heap} {L AS TL T1 T0 H : Addr} {x0 x1 x2 x3 x4 : Array Value} {n0 n1 n2 n3 n4 : Nat} {tps own : List (Addr × Obj)}
    (N : News h₀ L h ((AS, listOf x0 n0) :: (TL, listOf x1 n1) :: (T1, listOf x2 n2) :: (T0, listOf x3 n3) :: (H, listOf x4 n4) :: tps ++ own)) (ht : ∀ p ∈ tps, p.2.cls = .type "tuple")
    (ho : OwnOff own (((AS, listOf x0 n0) :: (TL, listOf x1 n1) :: (T1, listOf x2 n2) :: (T0, listOf x3 n3) :: (H, listOf x4 n4) :: tps).map (·.1))) : OwnOff (tps ++ own) [AS, TL, T1, T0, H] :=
  off_lists (l := [(AS, listOf x0 n0), (TL, listOf x1 n1), (T1, listOf x2 n2), (T0, listOf x3 n3), (H, listOf x4 n4)]) N
    (List.forall_mem_cons.mpr ⟨rfl, List.forall_mem_cons.mpr ⟨rfl, List.forall_mem_cons.mpr ⟨rfl, List.forall_mem_cons.mpr ⟨rfl, List.forall_mem_cons.mpr ⟨rfl, fun _ h => nomatch h⟩⟩⟩⟩⟩) ht ho
theorem ask_cls {D : Addr} {x : Array Value} {tps : List (Addr × Obj)} (h : ∀ p ∈ tps, p.2.cls = .type "tuple") : ∀ p ∈ (D, tupOf x) :: tps, p.2.cls = .type "tuple" := fun p hp => by
  rcases List.mem_cons.mp hp with rfl | hp
  · rfl
  · exact h p hp
theorem AsksIn.more {tps : List (Addr × Obj)} {as : List Value} {p : Addr × Obj} (h : AsksIn tps as) : AsksIn (p :: tps) as := fun v hv => by
  obtain ⟨T, b, t, y, e, hm, r⟩ := h v hv
  exact ⟨T, b, t, y, e, List.mem_cons_of_mem _ hm, r⟩
theorem AsksIn.snoc {tps : List (Addr × Obj)} {as : List Value} {D : Addr} {b : Array UInt8} {t : Tok} {y : Value} (h : AsksIn tps as) (hb : (KBw.bInts b).length ≤ 9) (hy : FileIn y) : AsksIn ((D, tupOf #[.bytes b t, y]) :: tps) (as ++ [Value.ref D]) := fun v hv => by
  rcases List.mem_append.mp hv with hv | hv
  · exact h.more v hv
  · exact ⟨D, b, t, y, List.mem_singleton.mp hv, List.mem_cons_self .., hb, hy⟩
section
variable {h₀ h' : Heap} {L D AS TL T1 T0 H : Addr} {x : Str} {stored : List Str} {m₀ m' : Str → Option Value} {tk : Nat} {Q : Flow → Shared → Prop} {s₁ : Shared} {i na n0 n1 nh : Nat} {tps own rest : List (Addr × Obj)} {as a0 a1 hs : List Value} {b : Array UInt8} {t : Tok} {y : Value}
theorem ask_end (F : Fr h₀ L h' m') (N : News h₀ L h' ((D, tupOf #[.bytes b t, y]) :: (AS, listOf (as.toArray.push (.ref D)) (na + 1)) :: (TL, listOf #[.ref T0, .ref T1] 0) :: (T1, listOf a1.toArray n1) :: (T0, listOf a0.toArray n0) :: (H, listOf hs.toArray nh) :: rest))
    (hr : tps ++ own = rest) (hko : ∀ p ∈ own, p.2.cls = .type "list_iterator") (hoff : OwnOff own (((AS, listOf as.toArray na) :: (TL, listOf #[.ref T0, .ref T1] 0) :: (T1, listOf a1.toArray n1) :: (T0, listOf a0.toArray n0) :: (H, listOf hs.toArray nh) :: tps).map (·.1)))
    (ql : as.length ≤ i) (ht : ∀ p ∈ tps, p.2.cls = .type "tuple") (ha : AsksIn tps as) (hb : (KBw.bInts b).length ≤ 9) (hy : FileIn y) (hm : ∀ z, z ≠ x → stored.contains z = false → m' z = m₀ z) :
    LpEnd h₀ L x stored m₀ (AskJ AS TL T1 T0 H a0 a1 hs n0 n1 nh (i + 1)) own s₁ Q .next { s₁ with heap := h', toks := tk } := by
  subst hr
  rw [pushL] at N
  have ho := own6 (a := (D, tupOf #[.bytes b t, y])) ([(AS, listOf (as ++ [Value.ref D]).toArray (na + 1)), (TL, listOf #[.ref T0, .ref T1] 0), (T1, listOf a1.toArray n1), (T0, listOf a0.toArray n0), (H, listOf hs.toArray nh)] ++ tps) (own := own)
  refine LpEnd.next (nx := [(AS, listOf (as ++ [Value.ref D]).toArray (na + 1)), (TL, listOf #[.ref T0, .ref T1] 0), (T1, listOf a1.toArray n1), (T0, listOf a0.toArray n0), (H, listOf hs.toArray nh)] ++ ((D, tupOf #[.bytes b t, y]) :: tps)) F N
    ⟨_, _, _, rfl, by rw [List.length_append]; exact Nat.succ_le_succ ql, ask_cls ht, ha.snoc hb hy⟩ (mem_rot [(AS, listOf (as ++ [Value.ref D]).toArray (na + 1)), (TL, listOf #[.ref T0, .ref T1] 0), (T1, listOf a1.toArray n1), (T0, listOf a0.toArray n0), (H, listOf hs.toArray nh)]) ho
    (off_rot (l := [(AS, listOf as.toArray na), (TL, listOf #[.ref T0, .ref T1] 0), (T1, listOf a1.toArray n1), (T0, listOf a0.toArray n0), (H, listOf hs.toArray nh)]) (r := tps) hoff rfl fun p hp => own_ne N (ho p hp) (.head _) (hko p hp) (show Value.type "tuple" ≠ Value.type "list_iterator" by decide)) hm
theorem ask_same (F : Fr h₀ L h' m') (N : News h₀ L h' ((AS, listOf as.toArray na) :: (TL, listOf #[.ref T0, .ref T1] 0) :: (T1, listOf a1.toArray n1) :: (T0, listOf a0.toArray n0) :: (H, listOf hs.toArray nh) :: rest))
    (hr : tps ++ own = rest) (hoff : OwnOff own (((AS, listOf as.toArray na) :: (TL, listOf #[.ref T0, .ref T1] 0) :: (T1, listOf a1.toArray n1) :: (T0, listOf a0.toArray n0) :: (H, listOf hs.toArray nh) :: tps).map (·.1)))
    (ql : as.length ≤ i) (ht : ∀ p ∈ tps, p.2.cls = .type "tuple") (ha : AsksIn tps as) (hm : ∀ z, z ≠ x → stored.contains z = false → m' z = m₀ z) :
    LpEnd h₀ L x stored m₀ (AskJ AS TL T1 T0 H a0 a1 hs n0 n1 nh (i + 1)) own s₁ Q .next { s₁ with heap := h', toks := tk } := by
  subst hr
  refine LpEnd.next (nx := [(AS, listOf as.toArray na), (TL, listOf #[.ref T0, .ref T1] 0), (T1, listOf a1.toArray n1), (T0, listOf a0.toArray n0), (H, listOf hs.toArray nh)] ++ tps) F N ⟨_, _, _, rfl, Nat.le_succ_of_le ql, ht, ha⟩ (sub5 _) (own5 ([(AS, listOf as.toArray na), (TL, listOf #[.ref T0, .ref T1] 0), (T1, listOf a1.toArray n1), (T0, listOf a0.toArray n0), (H, listOf hs.toArray nh)] ++ tps)) hoff hm
end
/-- as the walk stands in _law_drawn -/
noncomputable abbrev drawnEnv (L : Addr) : Env := envOf (Str.ofString "_law_drawn") { kind := ScopeKind.function, names := [(Str.ofString "numbers", NameKind.local), (Str.ofString "first", NameKind.local), (Str.ofString "heads", NameKind.local), (Str.ofString "told", NameKind.local), (Str.ofString "asks", NameKind.local), (Str.ofString "n", NameKind.local), (Str.ofString "row", NameKind.local), (Str.ofString "q", NameKind.local), (Str.ofString "bytes", NameKind.globalImplicit), (Str.ofString "_law_row", NameKind.globalImplicit), (Str.ofString "len", NameKind.globalImplicit)], isGenerator := false, isCoroutine := false } L 146 (Value.ref 145)
noncomputable abbrev asksAt (AS : Addr) (f : List UInt8) (t : Tok) (m : Str → Option Value) : Str → Option Value := fun y => if y = Str.ofString "asks" then some (.ref AS) else if y = Str.ofString "first" then some (.bytes f.toArray t) else m y
def Ev (w : World) (A : Around) (E : Value → Shared → Prop) (s : Shared) (L : Addr) (m : Str → Option Value) (e : Expr) (P : Value → Prop) : Prop :=
  ∀ (Q : Value → Shared → Prop) (h : Heap) (tk : Nat) (nx : List (Addr × Obj)), Fr s.heap L h m → News s.heap L h nx → (∀ v h' tk', P v → Fr s.heap L h' m → News s.heap L h' nx → Q v { s with heap := h', toks := tk' }) →
    wpAny (model PG w) A (eval e (drawnEnv L)) Q E { s with heap := h, toks := tk }
def ShortB (v : Value) : Prop := ∃ b t, v = Value.bytes b t ∧ (KBw.bInts b).length ≤ 9
theorem ShortB.mk {x : List UInt8} {t : Tok} (h : x.length ≤ 9) : ShortB (.bytes x.toArray t) := ⟨_, t, rfl, by simp only [KBw.bInts, List.length_map]; exact h⟩
theorem News.tl {h₀ h : Heap} {L : Addr} {a : Addr × Obj} {r : List (Addr × Obj)} (N : News h₀ L h (a :: r)) : News h₀ L h r := fun p hp => N p (.tail _ hp)
theorem ask_swap {h₀ h : Heap} {L : Addr} {a b : Addr × Obj} {r R0 : List (Addr × Obj)} (N : News h₀ L h (b :: a :: (r ++ R0))) : News h₀ L h (a :: ((b :: r) ++ R0)) := fun p hp => N p (by
  rcases List.mem_cons.mp hp with h | hp
  · exact h ▸ .tail _ (.head _)
  rcases List.mem_cons.mp hp with h | hp
  · exact h ▸ .head _
  · exact .tail _ (.tail _ hp))
theorem ask_off {AS D : Addr} {o : Obj} {r R0 : List (Addr × Obj)} (l : @LT.lt Nat _ AS D) (h : OwnOff (r ++ R0) [AS]) : OwnOff (((D, o) :: r) ++ R0) [AS] := fun p hp b hb => by
  rcases List.mem_cons.mp hp with rfl | hp
  · rw [List.mem_singleton.mp hb]; exact Nat.ne_of_gt l
  · exact h p hp b hb
section
variable {w : World} {dp un : Nat} {fr : Option (List Env)} {gd : Option (List Code)} {E : Value → Shared → Prop} {s : Shared} {mean : ExcName → Option Value} {mg mb : Str → Option Value} {L AS : Addr} {f1 f2 f3 : UInt8} {t : Tok} {m : Str → Option Value}
theorem ev_first {p : Pos} : Ev w ((AA dp un fr gd).deeper (drawnEnv L)) E s L (asksAt AS [f1, f2, f3] t m) (Expr.Name (Str.ofString "first") p) ShortB := by
  intro Q h tk nx F N hQ
  k_steps
  exact hQ _ _ _ (.mk (Nat.le_of_ble_eq_true rfl)) F N
theorem ev_none {p : Pos} {k : Nat} : Ev w ((AA dp un fr gd).deeper (drawnEnv L)) E s L (asksAt AS [f1, f2, f3] t m) (Expr.Constant .none k p) FileIn := by
  intro Q h tk nx F N hQ
  k_steps
  exact hQ _ _ _ (.inl rfl) F N
theorem Ev.file {A : Around} {m : Str → Option Value} {e : Expr} (h : Ev w A E s L m e ShortB) : Ev w A E s L m e FileIn := fun Q _ _ _ F N hQ => h Q _ _ _ F N fun v h' tk' hv => hQ v h' tk' (.inr hv)
theorem ev_b1 (X : (hd.heap_1 w.params).In s.heap) (T : TT mean mg mb s.heap) {p1 p2 p3 p4 : Pos} {k : Int} {z : Nat} (h0 : 0 ≤ k ∧ k < 256) :
    Ev w ((AA dp un fr gd).deeper (drawnEnv L)) E s L (asksAt AS [f1, f2, f3] t m) (Expr.Call (Expr.Name (Str.ofString "bytes") p1) [Expr.List [Expr.Constant (.int k) z p2] p3] [] p4) ShortB := by
  intro Q h tk nx F N hQ
  k_steps
  exact hQ _ _ _ (.mk (Nat.le_of_ble_eq_true rfl)) (by assumption) (News.tl (by assumption))
theorem ev_s1 (X : (hd.heap_1 w.params).In s.heap) (T : TT mean mg mb s.heap) {p1 p2 p3 p4 p5 p6 : Pos} {k : Int} {z : Nat} (h0 : 0 ≤ k ∧ k < 256) :
    Ev w ((AA dp un fr gd).deeper (drawnEnv L)) E s L (asksAt AS [f1, f2, f3] t m) (Expr.BinOp (Expr.Name (Str.ofString "first") p5) .Add (Expr.Call (Expr.Name (Str.ofString "bytes") p1) [Expr.List [Expr.Constant (.int k) z p2] p3] [] p4) p6) ShortB := by
  intro Q h tk nx F N hQ
  k_steps
  exact hQ _ _ _ (.mk (Nat.le_of_ble_eq_true rfl)) (by assumption) (News.tl (by assumption))
theorem ev_s2 (X : (hd.heap_1 w.params).In s.heap) (T : TT mean mg mb s.heap) {p1 p2 p3 p4 p5 p6 p7 : Pos} {k j : Int} {z z' : Nat} (h0 : 0 ≤ k ∧ k < 256) (h1 : 0 ≤ j ∧ j < 256) :
    Ev w ((AA dp un fr gd).deeper (drawnEnv L)) E s L (asksAt AS [f1, f2, f3] t m) (Expr.BinOp (Expr.Name (Str.ofString "first") p5) .Add (Expr.Call (Expr.Name (Str.ofString "bytes") p1) [Expr.List [Expr.Constant (.int k) z p2, Expr.Constant (.int j) z' p7] p3] [] p4) p6) ShortB := by
  intro Q h tk nx F N hQ
  k_steps
  exact hQ _ _ _ (.mk (Nat.le_of_ble_eq_true rfl)) (by assumption) (News.tl (by assumption))
local macro_rules | `(tactic| walk_at "eval") => `(tactic| refine stopHere ?_)
local macro_rules | `(tactic| walk_at "call builtin:list.append") => `(tactic| (walk_at "mine_app"))
/-- asks.append((e1, e2)) -/
theorem ask_stmt (X : (hd.heap_1 w.params).In s.heap) (T : TT mean mg mb s.heap) {p1 p2 p3 p4 p5 : Pos} {z na : Nat} {e1 e2 : Expr} {rest : List Stmt} {as : List Value} {tps R0 : List (Addr × Obj)} {Q : Flow → Shared → Prop} {h : Heap} {tk : Nat} {pl : Sem Bool}
    (he : eval (.Call (.Attribute (Expr.Name (Str.ofString "asks") p1) (Str.ofString "append") p2) [Expr.Tuple [e1, e2] z p3] [] p4) (drawnEnv L) = (do
      let ov ← eval (Expr.Name (Str.ofString "asks") p1) (drawnEnv L)
      standAt p2.atName
      let (f, first) ← holding [ov] (getMethod ov (Str.ofString "append") pl)
      callWith p4 f first (backTo p4 (starEach [Expr.Tuple [e1, e2] z p3] (drawnEnv L))) []))
    (hs : backTo p3 (starEach [e1, e2] (drawnEnv L)) = [(false, eval e1 (drawnEnv L)), (false, eval e2 (drawnEnv L))])
    (h1 : Ev w ((AA dp un fr gd).deeper (drawnEnv L)) E s L (asksAt AS [f1, f2, f3] t m) e1 ShortB) (h2 : Ev w ((AA dp un fr gd).deeper (drawnEnv L)) E s L (asksAt AS [f1, f2, f3] t m) e2 FileIn)
    (F : Fr s.heap L h (asksAt AS [f1, f2, f3] t m)) (N : News s.heap L h ((AS, listOf as.toArray na) :: (tps ++ R0))) (hoff : OwnOff (tps ++ R0) [AS]) (hl : as.length ≤ 20) (ht : ∀ p ∈ tps, p.2.cls = .type "tuple") (ha : AsksIn tps as)
    (hK : ∀ (as' : List Value) na' tps' h' tk', as'.length = as.length + 1 → Fr s.heap L h' (asksAt AS [f1, f2, f3] t m) → News s.heap L h' ((AS, listOf as'.toArray na') :: (tps' ++ R0)) → OwnOff (tps' ++ R0) [AS] → (∀ p ∈ tps', p.2.cls = .type "tuple") → AsksIn tps' as' →
      wpAny (model PG w) ((AA dp un fr gd).deeper (drawnEnv L)) (execs rest (drawnEnv L)) Q E { s with heap := h', toks := tk' }) :
    wpAny (model PG w) ((AA dp un fr gd).deeper (drawnEnv L)) (execs (Stmt.Expr (Expr.Call (Expr.Attribute (Expr.Name (Str.ofString "asks") p1) (Str.ofString "append") p2) [Expr.Tuple [e1, e2] z p3] [] p4) p5 :: rest) (drawnEnv L)) Q E { s with heap := h, toks := tk } := by
  generalize hR : tps ++ R0 = R at hoff N
  k_steps
  unfold Stop
  refine MethodCall_ ?_ he
  k_steps
  rw [hs]
  refine Calls.spliced_cons ?_
  refine h1 _ _ _ _ (by assumption) (by assumption) fun v h' tk' hv F N => ?_
  obtain ⟨b, t1, rfl, hb⟩ := hv
  refine Calls.spliced_cons ?_
  refine h2 _ _ _ _ F N fun y h' tk' hy F N => Calls.spliced_nil ?_
  clear h1 h2
  k_steps
  all_goals (try dsimp only)
  (with_reducible rename Fr _ _ _ _ => F9)
  (with_reducible rename News _ _ _ _ => N9)
  rename (_ < _) ∧ _ => l9
  subst hR
  rw [pushL] at N9
  exact hK _ _ ((_, tupOf #[.bytes b t1, y]) :: tps) _ _ (List.length_append ..) F9 (ask_swap N9) (ask_off l9.1 hoff) (ask_cls ht) (ha.snoc hb hy)
theorem asksAt_eq {AS : Addr} {f : List UInt8} {t : Tok} {m : Str → Option Value} (h1 : m (Str.ofString "asks") = some (.ref AS)) (h2 : m (Str.ofString "first") = some (.bytes f.toArray t)) : asksAt AS f t m = m := by
  funext y
  show (if _ then _ else if _ then _ else _) = _
  split
  · next e => rw [e, h1]
  · split
    · next e => rw [e, h2]
    · rfl
theorem fr_asks {h₀ h : Heap} {f : List UInt8} (F : Fr h₀ (drawnEnv L).locals h m) (h1 : m (Str.ofString "asks") = some (.ref AS)) (h2 : m (Str.ofString "first") = some (.bytes f.toArray t)) : Fr h₀ L h (asksAt AS f t m) := by
  rw [asksAt_eq h1 h2]; exact F
end
theorem ask_fore {h₀ h : Heap} {L : Addr} {a b c d e : Addr × Obj} {r : List (Addr × Obj)} (N : News h₀ L h (a :: b :: c :: d :: e :: r)) : News h₀ L h (a :: (r ++ [b, c, d, e])) := fun p hp => N p (by
  rcases List.mem_cons.mp hp with h | hp
  · exact h ▸ .head _
  rcases List.mem_append.mp hp with hp | hp
  · exact .tail _ (.tail _ (.tail _ (.tail _ (.tail _ hp))))
  · exact .tail _ (List.mem_append_left r hp))
theorem ask_back {h₀ h : Heap} {L : Addr} {a b c d e : Addr × Obj} {r : List (Addr × Obj)} (N : News h₀ L h (a :: (r ++ [b, c, d, e]))) : News h₀ L h (a :: b :: c :: d :: e :: r) := fun p hp => N p (by
  rcases List.mem_cons.mp hp with h | hp
  · exact h ▸ .head _
  have hp : p ∈ [b, c, d, e] ++ r := hp
  rcases List.mem_append.mp hp with hp | hp
  · exact .tail _ (List.mem_append_right r hp)
  · exact .tail _ (List.mem_append_left _ hp))
theorem ask_off0 {h₀ h : Heap} {L AS TL T1 T0 H : Addr} {x0 : Array Value} {o1 o2 o3 o4 : Obj} {n0 : Nat} {tps : List (Addr × Obj)} (N : News h₀ L h ((AS, listOf x0 n0) :: (TL, o1) :: (T1, o2) :: (T0, o3) :: (H, o4) :: tps)) (ht : ∀ p ∈ tps, p.2.cls = .type "tuple")
    (h1 : @LT.lt Nat _ TL AS) (h2 : @LT.lt Nat _ T1 AS) (h3 : @LT.lt Nat _ T0 AS) (h4 : @LT.lt Nat _ H AS) : OwnOff (tps ++ [(TL, o1), (T1, o2), (T0, o3), (H, o4)]) [AS] := by
  intro p hp b hb e
  rw [List.mem_singleton.mp hb] at e
  rcases List.mem_append.mp hp with hp | hp
  · have k1 := (N p (.tail _ (.tail _ (.tail _ (.tail _ (.tail _ hp)))))).1
    rw [e, (N _ (.head _)).1] at k1
    have k2 := ht p hp
    rw [← Option.some.inj k1] at k2
    have k3 : Value.type "list" = Value.type "tuple" := k2
    exact absurd k3 (by decide)
  · simp only [List.mem_cons, List.not_mem_nil, or_false] at hp
    rcases hp with rfl | rfl | rfl | rfl
    · exact Nat.ne_of_lt h1 e
    · exact Nat.ne_of_lt h2 e
    · exact Nat.ne_of_lt h3 e
    · exact Nat.ne_of_lt h4 e
theorem news4 {h₀ h' : Heap} {L : Addr} {d as tl t1 t0 q : Addr × Obj} {tps : List (Addr × Obj)} (N : News h₀ L h' (d :: as :: tl :: t1 :: t0 :: q :: tps)) : ∀ p ∈ d :: t0 :: t1 :: as :: tps, h'.get? p.1 = some p.2 ∧ h₀.get? p.1 = none := fun p hp =>
  have hm := N p (by
    rcases List.mem_cons.mp hp with h | hp
    · exact h ▸ .head _
    rcases List.mem_cons.mp hp with h | hp
    · exact h ▸ .tail _ (.tail _ (.tail _ (.tail _ (.head _))))
    rcases List.mem_cons.mp hp with h | hp
    · exact h ▸ .tail _ (.tail _ (.tail _ (.head _)))
    rcases List.mem_cons.mp hp with h | hp
    · exact h ▸ .tail _ (.head _)
    · exact .tail _ (.tail _ (.tail _ (.tail _ (.tail _ (.tail _ hp))))))
  ⟨hm.1, hm.2.2⟩
section
variable {w : World} {dp un : Nat} {fr : Option (List Env)} {gd : Option (List Code)} {Q E : Value → Shared → Prop} {s : Shared} {mean : ExcName → Option Value} {mg mb : Str → Option Value} {A : Around} {b : Array UInt8} {t u : Tok}
local macro_rules | `(tactic| walk_at "pyIter ref") => `(tactic| refine stopHere ?_)
local macro_rules | `(tactic| walk_at "call ref") => `(tactic| (k_here; (with_reducible rename Fr _ _ _ _ => kF'); (with_reducible rename News _ _ _ _ => kN'); k_dflt (refine' row_spec (Frag.In.keeps ?kX kF'.keep) (Top.keeps ?kT kF'.keep) ?kd (News.isList kN' ?kM) ?kR ?kp ?kl ?_; (case kM => k_mem); (case kR => k_asm); (case kp => k_asm); (case kl => omega); (walk_at "mine_ctx"); intro b9 t9 h' tk' hk' hb9; (have hE9 : ∃ ks, KBw.bInts b9 = ks := ⟨_, Eq.refl _⟩); (rcases hE9 with ⟨ks9, hE9⟩); (rw [hE9] at hb9); (walk_at "mine_kept"))))
local macro_rules | `(tactic| walk_at "subscriptTail") => `(tactic| (k_here; (with_reducible show wpAny _ _ (subscriptTail _ _ (Value.ref _) (Value.int _ _)) _ _ _); (with_reducible rename News _ _ _ _ => kN'); k_dflt (refine' told_item (News.isList kN' ?kM) (fmod_lo _ (by decide)) (by assumption) ?_ (by with_unfolding_all rfl); (case kM => k_mem); k_whole; (intro v9 hv9; (rcases hv9 with e9 | e9) <;> subst e9); (try dsimp only))))
local macro_rules | `(tactic| walk_at "call builtin:list.append") => `(tactic| (walk_at "mine_app"))

theorem DrawJ.mk {AS TL T1 T0 H : Addr} {i n0 n1 nh : Nat} {a0 a1 hs : List Value} (r0 : RowsIn 9 a0) (r1 : RowsIn 9 a1) (r2 : RowsIn 6 hs) (p0 : 0 < a0.length) (q0 : a0.length ≤ 1 + i) (p1 : 0 < a1.length) (q1 : a1.length ≤ 1 + i) (p2 : 0 < hs.length) (q2 : hs.length ≤ 2 + i) :
    DrawJ AS TL T1 T0 H i [(AS, listOf #[] 0), (TL, listOf #[.ref T0, .ref T1] 0), (T1, listOf a1.toArray n1), (T0, listOf a0.toArray n0), (H, listOf hs.toArray nh)] := ⟨a0, a1, hs, n0, n1, nh, rfl, r0, r1, r2, p0, q0, p1, q1, p2, q2⟩
theorem drawn_spec {l : Addr} {vs : List Value} {ns : List Int}
    (X : (hd.heap_1 w.params).In s.heap) (T : TT mean mg mb s.heap) (hd : dp < 940) (hl : s.heap.IsList l vs.toArray) (hi : IntsAre vs ns) (hlen : ns.length ≤ 6)
    (hQ : ∀ D T0 T1 AS (a0 a1 as : List Value) n0 n1 na tps h' tk, Keep s.heap h' → (∀ p ∈ (D, tupOf #[.ref T0, .ref T1, .ref AS]) :: (T0, listOf a0.toArray n0) :: (T1, listOf a1.toArray n1) :: (AS, listOf as.toArray na) :: tps, h'.get? p.1 = some p.2 ∧ s.heap.get? p.1 = none) →
      RowsIn 9 a0 → RowsIn 9 a1 → 0 < a0.length → a0.length ≤ 7 → 0 < a1.length → a1.length ≤ 7 → 0 < as.length → as.length ≤ 13 → (∀ p ∈ tps, p.2.cls = .type "tuple") → AsksIn tps as → Q (.ref D) { s with heap := h', toks := tk }) :
    wpAny (model PG w) (AA dp un fr gd) (call (.ref 146) [.ref l]) Q E s := by
  have hvl : vs.length ≤ 6 := by rw [hi.length]; exact hlen
  have hvi : ∀ (i : Nat) v, vs[i]? = some v → ∃ n t, v = Value.int n t := by
    intro i v hv
    exact ints_all hi v (List.mem_of_getElem? hv)
  refine' enter_pure (binds := [(Str.ofString "numbers", .ref l)]) ?kX ?kT ?k6 ?k7 ?k8 ?k9 ?kB ?_ ?c2 ?c3 ?c4 ?c5
  k_dflt (walk_at "mine_enter")
  k_steps
  all_goals (try dsimp only)
  unfold Stop
  (with_reducible rename Fr _ _ _ _ => F1)
  (with_reducible rename News _ _ _ _ => N1)
  refine for_list [Str.ofString "row"] (DrawJ _ _ _ _ _) rfl hl F1 (news_mid5 N1) (DrawJ.mk (a0 := [_]) (a1 := [_]) (hs := [_, _]) ?_ ?_ ?_ ?_ ?_ ?_ ?_ ?_ ?_) ?_ ?_
  · intro v hv; rw [List.mem_singleton.mp hv]; exact ⟨_, _, rfl, by decide⟩
  · intro v hv; rw [List.mem_singleton.mp hv]; exact ⟨_, _, rfl, by decide⟩
  · intro v hv
    simp only [List.mem_cons, List.not_mem_nil, or_false] at hv
    rcases hv with rfl | rfl
    · exact ⟨_, _, rfl, by decide⟩
    · exact ⟨_, _, rfl, by decide⟩
  all_goals try (simp; done)
  · rintro i v u nx h tk own hv hoff hko ⟨a0, a1, hs, n0, n1, nh, rfl, r0, r1, r2, p0, q0, p1, q1, p2, q2⟩ F2 N2
    have hi6 : i < 6 := by have := (List.getElem?_eq_some_iff.mp hv).1; omega
    obtain ⟨n, tn, rfl⟩ := hvi i v hv
    clear F1 N1
    simp only [List.map_cons, List.map_nil, List.cons_append, List.nil_append] at hoff N2
    k_steps
    all_goals (try dsimp only)
    all_goals (with_reducible rename Fr _ _ _ _ => F9)
    all_goals (with_reducible rename News _ _ _ _ => N9)
    all_goals (try simp only [pushL] at N9)
    all_goals first
      | refine LpEnd.next F9 N9 ?_ (sub6 [_, _, _, _, _]) (own6 [_, _, _, _, _]) hoff ?_
      | refine LpEnd.next F9 N9 ?_ (sub5 [_, _, _, _, _]) (own5 [_, _, _, _, _]) hoff ?_
    all_goals first
      | (intro z h1 h2; have h3 : z ≠ Str.ofString "row" := (by rintro rfl; simp at h2); simp only [if_neg h1, if_neg h3, h2, Bool.false_eq_true, if_false]; done)
      | (refine DrawJ.mk ?_ ?_ ?_ ?_ ?_ ?_ ?_ ?_ ?_)
    all_goals first
      | assumption
      | exact RowsIn.snoc r0 (by rw [(by assumption : KBw.bInts _ = _)]; assumption)
      | exact RowsIn.snoc r1 (by rw [(by assumption : KBw.bInts _ = _)]; assumption)
      | exact RowsIn.snoc r2 (any36' (by assumption) (by assumption))
      | (simp only [List.length_append, List.length_singleton]; omega)
      | omega
  · rintro u nx h tk ⟨a0, a1, hs, n0, n1, nh, rfl, r0, r1, r2, p0, q0, p1, q1, p2, q2⟩ F2 N2
    clear F1 N1
    dsimp only
    k_steps
    all_goals (try dsimp only)
    unfold Stop
    (with_reducible rename Fr _ _ _ _ => F3)
    (with_reducible rename News _ _ _ _ => N3)
    refine for_list [Str.ofString "q"] (AskJ _ _ _ _ _ a0 a1 hs n0 n1 nh) rfl hl F3 N3 ⟨[], 0, [], rfl, Nat.le_refl _, (fun _ h => by cases h), (fun _ h => by cases h)⟩ ?_ ?_
    · rintro i v u2 nx h2 tk2 own hv hoff hko ⟨as, na, tps, rfl, ql, ht, ha⟩ F4 N4
      have hi6 : i < 6 := by have := (List.getElem?_eq_some_iff.mp hv).1; omega
      obtain ⟨n, tn, rfl⟩ := hvi i v hv
      clear F3 N3
      have hoff5 := askOff N4 ht hoff
      simp only [List.cons_append, List.append_assoc] at N4
      generalize hrest : tps ++ own = rest at hoff5 N4
      k_steps
      all_goals (try dsimp only)
      all_goals first
        | refine ask_end (by assumption) (by assumption) hrest hko hoff ql ht ha (by rw [(by assumption : KBw.bInts _ = _)]; assumption) (.inr ⟨_, _, rfl, by rw [(by assumption : KBw.bInts _ = _)]; assumption⟩) ?_
        | refine ask_end (by assumption) (by assumption) hrest hko hoff ql ht ha (by rw [(by assumption : KBw.bInts _ = _)]; assumption) (.inl rfl) ?_
        | refine ask_same (by assumption) (by assumption) hrest hoff ql ht ha ?_
      all_goals (intro z h1 h2; have h3 : z ≠ Str.ofString "q" := (by rintro rfl; simp at h2); simp only [if_neg h1, if_neg h3, h2, Bool.false_eq_true, if_false]; done)
    · rintro u2 nx h2 tk2 ⟨as, na, tps, rfl, ql, ht, ha⟩ F4 N4
      clear F3 N3
      have F := fr_asks F4 rfl rfl
      have hoff := ask_off0 N4 ht (by omega) (by omega) (by omega) (by omega)
      have N := ask_fore N4
      clear F4 N4
      refine ask_stmt X T rfl rfl (ev_s1 X T (by decide)) (Ev.file (ev_s1 X T (by decide))) F N hoff (by omega) ht ha fun as na tps h tk e1 F N hoff ht ha => ?_
      refine ask_stmt X T rfl rfl (ev_s1 X T (by decide)) (Ev.file (ev_s1 X T (by decide))) F N hoff (by omega) ht ha fun as na tps h tk e2 F N hoff ht ha => ?_
      refine ask_stmt X T rfl rfl (ev_b1 X T (by decide)) (Ev.file (ev_s2 X T (by decide) (by decide))) F N hoff (by omega) ht ha fun as na tps h tk e3 F N hoff ht ha => ?_
      refine ask_stmt X T rfl rfl (ev_b1 X T (by decide)) (Ev.file (ev_s1 X T (by decide))) F N hoff (by omega) ht ha fun as na tps h tk e4 F N hoff ht ha => ?_
      refine ask_stmt X T rfl rfl (ev_s1 X T (by decide)) (Ev.file ev_first) F N hoff (by omega) ht ha fun as na tps h tk e5 F N hoff ht ha => ?_
      refine ask_stmt X T rfl rfl ev_first (Ev.file (ev_b1 X T (by decide))) F N hoff (by omega) ht ha fun as na tps h tk e6 F N hoff ht ha => ?_
      refine ask_stmt X T rfl rfl (ev_b1 X T (by decide)) ev_none F N hoff (by omega) ht ha fun as na tps h tk e7 F N hoff ht ha => ?_
      have N4 := ask_back N
      clear N hoff
      k_steps
      all_goals (try dsimp only)
      (with_reducible rename Fr _ _ _ _ => F9)
      (with_reducible rename News _ _ _ _ => N9)
      exact hQ _ _ _ _ a0 a1 as n0 n1 na tps _ _ F9.keep (news4 N9) r0 r1 p0 (by omega) p1 (by omega) (by omega) (by omega) ht ha
end
end Mine

end -- D2
theorem Mine.pad_D3 : Mine.PadG := by first | (walk1; fail "pad") | exact trivial
section -- D3
open PySem PySem.W PySem.Calls PyProof.Rows
set_option maxRecDepth 100000
set_option maxHeartbeats 8000000
namespace Mine
theorem dummyd3 (w : World) (h : Heap) : (hd.heap_1 w.params).In h → PySem.Challenge.rw_nq0028_01.Holds → True := by
  k_fill
  intro _ _; trivial
/-- pairs of values, by a list of tuples -/
noncomputable def PairsAt (h : Heap) (as : List Value) (ps : List (Value × Value)) : Prop :=
  as.length = ps.length ∧ ∀ (i : Nat) x y, ps[i]? = some (x, y) → ∃ T, as[i]? = some (.ref T) ∧ h.IsTuple T #[x, y]
/-- the same, by a ledger -/
noncomputable def PairsL (ents : List (Addr × Obj)) (as : List Value) (ps : List (Value × Value)) : Prop :=
  as.length = ps.length ∧ ∀ (i : Nat) x y, ps[i]? = some (x, y) → ∃ T, as[i]? = some (.ref T) ∧ (T, tupOf #[x, y]) ∈ ents
theorem PairsAt.keeps {h h' : Heap} {as : List Value} {ps : List (Value × Value)} (k : Keep h h') (p : PairsAt h as ps) : PairsAt h' as ps :=
  ⟨p.1, fun i x y e => by obtain ⟨T, a, b⟩ := p.2 i x y e; exact ⟨T, a, b.at fun o e => k T o e⟩⟩
theorem PairsL.toAt {h : Heap} {ents : List (Addr × Obj)} {as : List Value} {ps : List (Value × Value)} (he : ∀ p ∈ ents, h.get? p.1 = some p.2) (p : PairsL ents as ps) : PairsAt h as ps :=
  ⟨p.1, fun i x y e => by obtain ⟨T, a, b⟩ := p.2 i x y e; exact ⟨T, a, _, he _ b, rfl, _, rfl⟩⟩
theorem PairsL.sub {ents ents' : List (Addr × Obj)} {as : List Value} {ps : List (Value × Value)} (he : ∀ p ∈ ents, p ∈ ents') (p : PairsL ents as ps) : PairsL ents' as ps :=
  ⟨p.1, fun i x y e => by obtain ⟨T, a, b⟩ := p.2 i x y e; exact ⟨T, a, he _ b⟩⟩
theorem PairsL.app {ents : List (Addr × Obj)} {as bs : List Value} {ps qs : List (Value × Value)} (p : PairsL ents as ps) (q : PairsL ents bs qs) : PairsL ents (as ++ bs) (ps ++ qs) := by
  refine ⟨by simp [p.1, q.1], fun i x y e => ?_⟩
  by_cases h : i < ps.length
  · rw [List.getElem?_append_left h] at e
    rw [List.getElem?_append_left (by rw [p.1]; exact h)]
    exact p.2 i x y e
  · rw [List.getElem?_append_right (by omega)] at e
    rw [List.getElem?_append_right (by rw [p.1]; omega), p.1]
    exact q.2 _ x y e
/-- the second half: each name with the file as far from the end -/
noncomputable def turned (ps : List (Value × Value)) : List (Value × Value) := List.zipWith (fun a b => (a.1, b.2)) ps ps.reverse
theorem turned_len (ps : List (Value × Value)) : (turned ps).length = ps.length := by simp [turned]
theorem turned_at {ps : List (Value × Value)} {i : Nat} {x y x' y' : Value} (h : i < ps.length) (h1 : ps[i]? = some (x, y)) (h2 : ps[ps.length - 1 - i]? = some (x', y')) : (turned ps)[i]? = some (x, y') := by
  have e : ps.reverse[i]? = some (x', y') := by rw [List.getElem?_reverse h]; exact h2
  simp [turned, List.getElem?_zipWith, h1, e]
section
variable {w : World} {Q E : Value → Shared → Prop} {s : Shared} {A : Around} {l T : Addr} {as : List Value} {ps : List (Value × Value)} {value slice : Expr} {k : Int} {u : Tok} {x y : Value}
theorem pair_L (hl : s.heap.IsList l as.toArray) (hp : PairsAt s.heap as ps) (h0 : 0 ≤ k) (h1 : k < ps.length) (hz : ps.length ≤ 1000000) (h : ∀ T x y, ps[k.toNat]? = some (x, y) → s.heap.IsTuple T #[x, y] → Q (.ref T) s)
    (hs : subscripted slice false (.ref l) (.int k u) = operate [.ref l, .int k u] (getItem (.ref l) (.int k u))) : wpAny (model PG w) A (subscriptTail value slice (.ref l) (.int k u)) Q E s := by
  refine item_L hl h0 (by rw [hp.1]; exact h1) (by rw [hp.1]; exact hz) (fun v hv => ?_) hs
  have hlt : k.toNat < ps.length := by omega
  obtain ⟨T, a, b⟩ := hp.2 k.toNat _ _ (List.getElem?_eq_getElem hlt)
  rw [a] at hv; cases hv
  exact h T _ _ (List.getElem?_eq_getElem hlt) b
theorem pair_neg {i : Nat} (hl : s.heap.IsList l as.toArray) (hp : PairsAt s.heap as ps) (h0 : k = -1 - (i : Int)) (h1 : i < ps.length) (hz : ps.length ≤ 1000000) (h : ∀ T x y, ps[ps.length - 1 - i]? = some (x, y) → s.heap.IsTuple T #[x, y] → Q (.ref T) s)
    (hs : subscripted slice false (.ref l) (.int k u) = operate [.ref l, .int k u] (getItem (.ref l) (.int k u))) : wpAny (model PG w) A (subscriptTail value slice (.ref l) (.int k u)) Q E s := by
  have hlt : ps.length - 1 - i < ps.length := by omega
  obtain ⟨T, a, b⟩ := hp.2 _ _ _ (List.getElem?_eq_getElem hlt)
  have hsz : as.toArray.size = as.length := by simp
  have e : (k + (as.toArray.size : Int)).toNat = ps.length - 1 - i := by rw [hsz, hp.1]; omega
  refine tail_any hl.typeIs slot_list_getitem.lookup (wpAny_getItem_list_neg (x := .ref T) hl (by omega) (by rw [hsz, hp.1]; omega) (by omega) (by rw [e]; simpa using a) (h T _ _ (List.getElem?_eq_getElem hlt) b)) hs
theorem fst_T (ht : s.heap.IsTuple T #[x, y]) (h : Q x s) (hs : subscripted slice false (.ref T) (.int 0 u) = operate [.ref T, .int 0 u] (getItem (.ref T) (.int 0 u))) : wpAny (model PG w) A (subscriptTail value slice (.ref T) (.int 0 u)) Q E s :=
  tail_any (IsTup.typeIs ht) slot_tuple_getitem.lookup (getItem_tuple (items := #[x, y]) (j := 0) ht (by decide) (by decide) rfl rfl h) hs
theorem snd_T (ht : s.heap.IsTuple T #[x, y]) (h : Q y s) (hs : subscripted slice false (.ref T) (.int 1 u) = operate [.ref T, .int 1 u] (getItem (.ref T) (.int 1 u))) : wpAny (model PG w) A (subscriptTail value slice (.ref T) (.int 1 u)) Q E s :=
  tail_any (IsTup.typeIs ht) slot_tuple_getitem.lookup (getItem_tuple (items := #[x, y]) (j := 1) ht (by decide) (by decide) rfl rfl h) hs
end
theorem keepT {h h' : Heap} {l : Addr} {its : Array Value} (k : Keep h h') (hl : h.IsTuple l its) : h'.IsTuple l its := hl.at fun o e => k l o e
theorem AllLt.ne {d : Addr} {l : List (Addr × Obj)} (h : AllLt d l) : ∀ q ∈ l, q.1 ≠ d := by
  induction l with
  | nil => intro q hq; cases hq
  | cons p r ih =>
    intro q hq
    rcases List.mem_cons.mp hq with rfl | hq
    · exact Nat.ne_of_lt h.1
    · exact ih h.2 q hq
theorem ElF.one {C : Addr} {s : Shared} {own : List (Addr × Obj)} {G : Value → List (Addr × Obj) → Prop} {y : Value} {h' : Heap} {tk : Nat} {m : Str → Option Value} {D : Addr} {o : Obj} (F : Fr s.heap C h' m) (N : News s.heap C h' ((D, o) :: own)) (hne : ∀ q ∈ own, q.1 ≠ D) (hg : G y [(D, o)]) :
    ElF C s own G y { s with heap := h', toks := tk } := ⟨h', tk, m, _, [(D, o)], rfl, F, N, fun p hp => List.mem_cons_of_mem _ hp, fun p hp => by rw [List.mem_singleton.mp hp]; exact ⟨List.mem_cons_self .., hne⟩, hg⟩
/-- what is new to the caller joins its ledger -/
theorem news_all {h₀ h h' : Heap} {L : Addr} {m : Str → Option Value} {ents N : List (Addr × Obj)} (F : Fr h₀ L h m) (he : ∀ p ∈ ents, h'.get? p.1 = some p.2 ∧ h.get? p.1 = none) (hN : News h₀ L h' N) : News h₀ L h' (ents ++ N) := by
  intro p hp
  rcases List.mem_append.mp hp with hp | hp
  · refine ⟨(he p hp).1, fun e => ?_, ?_⟩
    · obtain ⟨o, _, _, ho, _⟩ := F.ns
      have := (he p hp).2
      rw [e, ho] at this; cases this
    · cases q : h₀.get? p.1 with
      | none => rfl
      | some o => have := F.keep _ _ q; rw [(he p hp).2] at this; cases this
  · exact hN p hp
section
variable {w : World} {dp un : Nat} {fr : Option (List Env)} {gd : Option (List Code)} {Q E : Value → Shared → Prop} {s : Shared} {mean : ExcName → Option Value} {mg mb : Str → Option Value} {A : Around} {b : Array UInt8} {t u : Tok}
local macro_rules | `(tactic| walk_at "call builtin:len") => `(tactic| (walk_at "mine_len"))
local macro_rules | `(tactic| walk_at "eval ListComp") => `(tactic| (walk_at "mine_lc"))
local macro_rules | `(tactic| walk_at "eval Name") => `(tactic| (walk_at "mine_name"))
local macro_rules | `(tactic| walk_at "subscriptTail") => `(tactic| (k_here; (with_reducible show wpAny _ _ (subscriptTail _ _ (Value.ref _) (Value.int _ _)) _ _ _); (with_reducible rename Fr _ _ _ _ => kF'); first
  | (refine pair_L (keepL kF'.keep (by assumption)) (PairsAt.keeps kF'.keep (by assumption)) (by omega) (by omega) (by omega) ?_ (by with_unfolding_all rfl); intro T9 x9 y9 he9 ht9; (try dsimp only))
  | (refine pair_neg (keepL kF'.keep (by assumption)) (PairsAt.keeps kF'.keep (by assumption)) (Eq.refl _) (by assumption) (by omega) ?_ (by with_unfolding_all rfl); intro T9 x9 y9 he9 ht9; (try dsimp only))
  | (refine fst_T (by assumption) ?_ (by with_unfolding_all rfl); (try dsimp only))
  | (refine snd_T (by assumption) ?_ (by with_unfolding_all rfl); (try dsimp only))))
theorem twice_spec {l : Addr} {as : List Value} {ps : List (Value × Value)}
    (X : (hd.heap_1 w.params).In s.heap) (T : TT mean mg mb s.heap) (hd : dp < 950) (hl : s.heap.IsList l as.toArray) (hp : PairsAt s.heap as ps) (hlen : ps.length ≤ 100)
    (hQ : ∀ D zs tps h' tk, Keep s.heap h' → (∀ p ∈ (D, listOf (as ++ zs).toArray 0) :: tps, h'.get? p.1 = some p.2 ∧ s.heap.get? p.1 = none) → PairsL tps zs (turned ps) → Q (.ref D) { s with heap := h', toks := tk }) :
    wpAny (model PG w) (AA dp un fr gd) (call (.ref 170) [.ref l]) Q E s := by
  have has : as.length = ps.length := hp.1
  refine' enter_cells (binds := [(Str.ofString "asks", .ref l)]) ?kX ?kT ?k6 ?k7 ?k8 ?k9 ?kB ?kD ?_ ?c2 ?c3 ?c4
  k_dflt (walk_at "mine_centr")
  k_steps
  all_goals (try dsimp only)
  rename IsRange _ _ _ _ _ _ _ _ => hR
  (with_reducible rename Fr _ _ _ _ => F1)
  (with_reducible rename News _ _ _ _ => N1)
  refine src_rangeN (fun i y fp => ∃ T x y', (turned ps)[i]? = some (x, y') ∧ y = .ref T ∧ fp = [(T, tupOf #[x, y'])]) rfl hR (by omega) (by intro b hb; cases hb) rfl rfl ?_ ?_
  · intro i t C h tk m own E' hi FC NC
    have hi' : i < ps.length := by omega
    have X' := X.keeps F1.keep
    have T' := Top.keeps T F1.keep
    have hl' := keepL F1.keep hl
    have hp' := PairsAt.keeps F1.keep hp
    k_steps
    all_goals (try dsimp only)
    rename ps[(_ : Int).toNat]? = _ => e1
    rename ps[_ - 1 - _]? = _ => e2
    exact ElF.one (by assumption) (by assumption) (fun q hq => Nat.ne_of_lt ((by assumption : ∀ p ∈ own, p.1 < _) q hq)) ⟨_, _, _, turned_at hi' (by simpa using e1) e2, rfl, rfl⟩
  · intro D h' tk ys fps hD hpl hy hf hG hF hPw hk
    dsimp only
    have hk' : Keep _ h' := fun b o e => hk b o (by simp) e
    have F2 := Fr.keptAll F1 hk'
    have N2 := News.grown N1 hk'
    have hE : ∀ p ∈ fps.flatten, h'.get? p.1 = some p.2 ∧ s.heap.get? p.1 = none := by
      intro p hp
      obtain ⟨f, hf, hpf⟩ := List.mem_flatten.mp hp
      obtain ⟨a1, _, a3⟩ := hF f hf p hpf
      refine ⟨a3, ?_⟩
      cases q : s.heap.get? p.1 with
      | none => rfl
      | some o => have := F1.keep _ _ q; rw [a1] at this; cases this
    have hPL : PairsL fps.flatten ys.toList (turned ps) := by
      refine ⟨by simp [turned_len, hy, has], fun i x y e => ?_⟩
      have hi : i < ps.length := by have := (List.getElem?_eq_some_iff.mp e).1; rw [turned_len] at this; exact this
      have h1 : ys[i]? = some ys[i] := Array.getElem?_eq_getElem (by omega)
      have h2 : fps[i]? = some fps[i] := List.getElem?_eq_getElem (by omega)
      obtain ⟨T, x', y', e', g1, g2⟩ := hG i _ _ h1 h2
      rw [e] at e'; cases e'
      refine ⟨T, by rw [← g1]; simpa using h1, List.mem_flatten.mpr ⟨fps[i], List.mem_of_getElem? h2, by rw [g2]; exact List.mem_singleton.mpr rfl⟩⟩
    have hE2 : ∀ p ∈ fps.flatten, h'.get? p.1 = some p.2 ∧ (_ : Heap).get? p.1 = none := fun p hp => by
      obtain ⟨f, hf, hpf⟩ := List.mem_flatten.mp hp
      obtain ⟨a1, _, a3⟩ := hF f hf p hpf
      exact ⟨a3, a1⟩
    have N3 := news_all F1 hE2 N2
    refine kmk_add_lit F2 N3 (keepL F2.keep hl) hpl.isList rfl (fun D2 h2 F4 N4 _ => ?_) (by rw [sizeLine_eq]; simp; omega)
    dsimp only
    refine hQ D2 ys.toList fps.flatten h2 tk F4.keep (fun p hp => ?_) hPL
    have hm := N4 p (by
      rcases List.mem_cons.mp hp with rfl | hp
      · simp
      · simp [hp])
    exact ⟨hm.1, hm.2.2⟩
end
end Mine

end -- D3
theorem Mine.pad_D4 : Mine.PadG := by first | (walk1; fail "pad") | exact trivial
section -- D4
open PySem PySem.W PySem.Calls PyProof.Rows
set_option maxRecDepth 100000
set_option maxHeartbeats 8000000
namespace Mine
theorem dummyd4 (w : World) (h : Heap) : (hd.heap_1 w.params).In h → PySem.Challenge.rw_nq0028_01.Holds → True := by
  k_fill
  intro _ _; trivial
noncomputable def rowOf : Value → List Int
  | .bytes b _ => KBw.bInts b
  | _ => []
noncomputable def isRow (r : List Int) (v : Value) : Bool := rowOf v == r
theorem eq_isRow {m : Nat} {vs : List Value} (hr : RowsIn m vs) (b : Array UInt8) (t : Tok) : ∀ y, y ∈ vs → MeetsSeq.EqGives y (.bytes b t) (isRow (KBw.bInts b) y) := by
  intro y hy
  obtain ⟨c, u, rfl, _⟩ := hr y hy
  intro prog w A E s Q h
  refine eqBool_bytes ?_
  have e : decide (c.toList = b.toList) = isRow (KBw.bInts b) (.bytes c u) := by
    show _ = (KBw.bInts c == KBw.bInts b)
    rw [← ints_eq]
    by_cases h : c.toList = b.toList
    · rw [decide_eq_true h, h]; simp
    · rw [decide_eq_false h, beq_eq_false_iff_ne.mpr h]
  rw [e]; exact h
section
variable {w : World} {Q E : Value → Shared → Prop} {s : Shared} {A : Around} {l : Addr} {vs : List Value} {b : Array UInt8} {t : Tok} {m : Nat}
theorem in_rows {r : List Int} (hb : KBw.bInts b = r) (hl : s.heap.IsList l vs.toArray) (hr : RowsIn m vs) (h : Q (.bool (vs.any (isRow r))) s) : wpAny (model PG w) A (compareOp .In (.bytes b t) (.ref l)) Q E s := by
  subst hb
  refine SeqInW.in_listW (isRow (KBw.bInts b)) (fun y hy => eq_isRow hr b t y (by simpa using hy)) hl ?_
  rw [← Array.any_toList]
  simpa using h
end
/-- the rule of one ask, told by the octets -/
noncomputable def ruleB (nm : List Int) (fl : Option (List Int)) (mods dirs : List (List Int)) (dot slash : Int) : Bool :=
  match fl with
  | none => true
  | some f => mods.any (· == nm) || mods.any (fun m => belowB nm m dot) || dirs.any (fun d => belowB f d slash)
noncomputable def ansS (b : Bool) : Str := if b then Str.ofString "1" else Str.ofString "0"
noncomputable def fileOf : Value → Option (List Int)
  | .bytes b _ => some (KBw.bInts b)
  | _ => none
theorem any_isRow (vs : List Value) (r : List Int) : vs.any (isRow r) = (vs.map rowOf).any (· == r) := by
  rw [List.any_map]; rfl
/-- none of the first i rows has p -/
noncomputable def NoneYet (p : List Int → Bool) (vs : List Value) (i : Nat) (nx : List (Addr × Obj)) : Prop := nx = [] ∧ ∀ (j : Nat) v, j < i → vs[j]? = some v → p (rowOf v) = false
theorem NoneYet.all {p : List Int → Bool} {vs : List Value} {nx : List (Addr × Obj)} (h : NoneYet p vs vs.length nx) : (vs.map rowOf).any p = false := by
  rw [List.any_eq_false]
  intro r hr
  obtain ⟨v, hv, rfl⟩ := List.mem_map.mp hr
  obtain ⟨j, hj⟩ := List.mem_iff_getElem?.mp hv
  rw [h.2 j v (List.getElem?_eq_some_iff.mp hj).1 hj]
  simp
theorem NoneYet.next {p : List Int → Bool} {vs : List Value} {i : Nat} {v : Value} {nx : List (Addr × Obj)} (h : NoneYet p vs i nx) (hv : vs[i]? = some v) (hp : p (rowOf v) = false) : NoneYet p vs (i + 1) [] := by
  refine ⟨rfl, fun j v' hj hv' => ?_⟩
  by_cases e : j = i
  · subst e; rw [hv] at hv'; cases hv'; exact hp
  · exact h.2 j v' (by omega) hv'
theorem any_row {p : List Int → Bool} {vs : List Value} {i : Nat} {v : Value} (hv : vs[i]? = some v) (hp : p (rowOf v) = true) : (vs.map rowOf).any p = true :=
  List.any_eq_true.mpr ⟨rowOf v, List.mem_map.mpr ⟨v, List.mem_of_getElem? hv, rfl⟩, hp⟩
section
variable {w : World} {dp un : Nat} {fr : Option (List Env)} {gd : Option (List Code)} {Q E : Value → Shared → Prop} {s : Shared} {mean : ExcName → Option Value} {mg mb : Str → Option Value} {A : Around} {b : Array UInt8} {t u : Tok}
local macro_rules | `(tactic| walk_at "pyIter ref") => `(tactic| refine stopHere ?_)
local macro_rules | `(tactic| walk_at "exec For Name Name cons nil") => `(tactic| (walk_at "mine_for"))
local macro_rules | `(tactic| walk_at "compareOp In bytes ref") => `(tactic| (k_here; (with_reducible rename Fr _ _ _ _ => kF'); refine in_rows (by assumption) (keepL kF'.keep (by assumption)) (by assumption) ?_; (try dsimp only)))
local macro_rules | `(tactic| walk_at "call ref") => `(tactic| (k_here; (with_reducible rename Fr _ _ _ _ => kF'); k_dflt (refine' below_spec (Frag.In.keeps ?kX kF'.keep) (Top.keeps ?kT kF'.keep) ?kd ?kb ?kc ?kl ?km ?_; (case kb => k_asm); (case kc => k_asm); (case kl => omega); (case km => omega); (walk_at "mine_ctx"); intro h' tk' hk'; (walk_at "mine_kept"))))
theorem rule_spec {b : Array UInt8} {t td ts : Tok} {fv : Value} {lm ld : Addr} {ms ds : List Value} {dot slash : Int} {r : List Int}
    (X : (hd.heap_1 w.params).In s.heap) (T : TT mean mg mb s.heap) (hd : dp < 950) (hb : KBw.bInts b = r) (hr : r.length ≤ 9) (hf : FileIn fv) (hm : s.heap.IsList lm ms.toArray) (hD : s.heap.IsList ld ds.toArray) (hmr : RowsIn 9 ms) (hdr : RowsIn 9 ds)
    (hQ : ∀ t h' tk, Keep s.heap h' → Q (.str (ansS (ruleB r (fileOf fv) (ms.map rowOf) (ds.map rowOf) dot slash)) t) { s with heap := h', toks := tk }) :
    wpAny (model PG w) (AA dp un fr gd) (call (.ref 160) [.bytes b t, fv, .ref lm, .ref ld, .int dot td, .int slash ts]) Q E s := by
  rcases hf with rfl | ⟨c, u, rfl, hcl⟩
  · refine' enter_pure (binds := [(Str.ofString "name", .bytes b t), (Str.ofString "file", .none), (Str.ofString "mods", .ref lm), (Str.ofString "dirs", .ref ld), (Str.ofString "dot", .int dot td), (Str.ofString "slash", .int slash ts)]) ?kX ?kT ?k6 ?k7 ?k8 ?k9 ?kB ?_ ?c2 ?c3 ?c4 ?c5
    k_dflt (walk_at "mine_enter")
    k_steps
    all_goals (try dsimp only)
    all_goals exact end_str hQ (Fr.keep (by assumption)) rfl
  · obtain ⟨f, hc⟩ : ∃ f, KBw.bInts c = f := ⟨_, rfl⟩
    rw [hc] at hcl
    have hfo : fileOf (.bytes c u) = some f := by rw [← hc]; rfl
    rw [hfo] at hQ
    refine' enter_pure (binds := [(Str.ofString "name", .bytes b t), (Str.ofString "file", .bytes c u), (Str.ofString "mods", .ref lm), (Str.ofString "dirs", .ref ld), (Str.ofString "dot", .int dot td), (Str.ofString "slash", .int slash ts)]) ?kX ?kT ?k6 ?k7 ?k8 ?k9 ?kB ?_ ?c2 ?c3 ?c4 ?c5
    k_dflt (walk_at "mine_enter")
    k_steps
    all_goals (try dsimp only)
    · rename ms.any _ = true => h1
      rw [any_isRow] at h1
      exact end_str hQ (Fr.keep (by assumption)) (by simp [ruleB, h1, ansS])
    rename ms.any _ = false => h1
    rw [any_isRow] at h1
    unfold Stop
    (with_reducible rename Fr _ _ _ _ => F1)
    (with_reducible rename News _ _ _ _ => N1)
    refine for_list [] (NoneYet (fun m => belowB r m dot) ms) rfl hm F1 (fun p hp => by cases hp) ⟨rfl, fun j v hj => absurd hj (by omega)⟩ ?_ ?_
    · rintro i v u9 nx h9 tk9 own hv hoff hko hJ F2 N2
      obtain ⟨c9, t9, rfl, hl9⟩ := hmr v (List.mem_of_getElem? hv)
      obtain ⟨m9, hm9⟩ : ∃ m, KBw.bInts c9 = m := ⟨_, rfl⟩
      have hro : rowOf (.bytes c9 t9) = m9 := hm9
      rw [hm9] at hl9
      obtain ⟨rfl, _⟩ := id hJ
      clear F1 N1
      simp only [List.nil_append] at N2
      k_steps
      all_goals (try dsimp only)
      · rename belowB _ _ _ = true => h2
        exact LpEnd.ret (end_str hQ (Fr.keep (by assumption)) (by rw [← hro] at h2; simp [ruleB, h1, any_row (p := fun m => belowB r m dot) hv h2, ansS]))
      · rename belowB _ _ _ = false => h2
        exact LpEnd.next (nx := []) (by assumption) (by assumption) (hJ.next hv (by rw [hro]; exact h2)) (fun p hp => by cases hp) (fun p hp => hp) (fun p hp b hb => by cases hb) (by intro z z1 z2; simp only [if_neg z1, z2, Bool.false_eq_true, if_false])
    · rintro u9 nx h9 tk9 hJ F2 N2
      have h3 := hJ.all
      obtain ⟨rfl, _⟩ := id hJ
      clear F1 N1
      dsimp only
      k_steps
      all_goals (try dsimp only)
      unfold Stop
      (with_reducible rename Fr _ _ _ _ => F3)
      (with_reducible rename News _ _ _ _ => N3)
      refine for_list [] (NoneYet (fun d => belowB f d slash) ds) rfl hD F3 (fun p hp => by cases hp) ⟨rfl, fun j v hj => absurd hj (by omega)⟩ ?_ ?_
      · rintro i v u8 nx h8 tk8 own hv hoff hko hJ F4 N4
        obtain ⟨c9, t9, rfl, hl9⟩ := hdr v (List.mem_of_getElem? hv)
        obtain ⟨m9, hm9⟩ : ∃ m, KBw.bInts c9 = m := ⟨_, rfl⟩
        have hro : rowOf (.bytes c9 t9) = m9 := hm9
        rw [hm9] at hl9
        obtain ⟨rfl, _⟩ := id hJ
        clear F3 N3
        simp only [List.nil_append] at N4
        k_steps
        all_goals (try dsimp only)
        · rename belowB _ _ _ = true => h2
          exact LpEnd.ret (end_str hQ (Fr.keep (by assumption)) (by rw [← hro] at h2; simp [ruleB, any_row (p := fun m => belowB f m slash) hv h2, ansS]))
        · rename belowB _ _ _ = false => h2
          exact LpEnd.next (nx := []) (by assumption) (by assumption) (hJ.next hv (by rw [hro]; exact h2)) (fun p hp => by cases hp) (fun p hp => hp) (fun p hp b hb => by cases hb) (by intro z z1 z2; simp only [if_neg z1, z2, Bool.false_eq_true, if_false])
      · rintro u8 nx h8 tk8 hJ F4 N4
        have h4 := hJ.all
        clear F3 N3
        dsimp only
        k_steps
        all_goals (try dsimp only)
        exact end_str hQ (Fr.keep (by assumption)) (by simp [ruleB, h1, h3, h4, ansS])
end
end Mine

end -- D4
theorem Mine.pad_D5 : Mine.PadG := by first | (walk1; fail "pad") | exact trivial
section -- D5
open PySem PySem.W PySem.Calls PyProof.Rows
set_option maxRecDepth 100000
set_option maxHeartbeats 8000000
namespace Mine
theorem dummyd5 (w : World) (h : Heap) : (hd.heap_1 w.params).In h → PySem.Challenge.rw_nq0028_01.Holds → True := by
  k_fill
  intro _ _; trivial
/-- a pair of a row and a row or none -/
noncomputable def RowPairs (ps : List (Value × Value)) : Prop := ∀ p ∈ ps, (∃ b t, p.1 = .bytes b t ∧ (KBw.bInts b).length ≤ 9) ∧ FileIn p.2
noncomputable abbrev nmsOf (ps : List (Value × Value)) : List (List Int) := ps.map fun p => rowOf p.1
noncomputable abbrev flsOf (ps : List (Value × Value)) : List (Option (List Int)) := ps.map fun p => fileOf p.2
noncomputable def dueAt (nms : List (List Int)) (fls : List (Option (List Int))) (mods dirs : List (List Int)) (dot slash : Int) (j : Nat) : Bool :=
  ruleB (nms.getD j []) (fls.getD (nms.idxOf (nms.getD j [])) none) mods dirs dot slash
theorem RowPairs.names {ps : List (Value × Value)} (h : RowPairs ps) : RowsIn 9 (ps.map (·.1)) := by
  intro v hv
  obtain ⟨p, hp, rfl⟩ := List.mem_map.mp hv
  obtain ⟨b, t, e, l⟩ := (h p hp).1
  exact ⟨b, t, e, l⟩
theorem RowPairs.file {ps : List (Value × Value)} {i : Nat} {x y : Value} (h : RowPairs ps) (e : ps[i]? = some (x, y)) : FileIn y := (h (x, y) (List.mem_of_getElem? e)).2
theorem nms_eq (ps : List (Value × Value)) : (ps.map (·.1)).map rowOf = nmsOf ps := by simp
theorem nms_at {ps : List (Value × Value)} {i : Nat} {x y : Value} (h : ps[i]? = some (x, y)) : (nmsOf ps).getD i [] = rowOf x := by simp [List.getD, h]
theorem fls_at {ps : List (Value × Value)} {i : Nat} {x y : Value} (h : ps[i]? = some (x, y)) : (flsOf ps).getD i none = fileOf y := by simp [List.getD, h]
section
variable {w : World} {Q E : Value → Shared → Prop} {s : Shared} {A : Around} {l T : Addr} {ps : List (Value × Value)} {value slice : Expr} {k : Int} {u t : Tok} {b : Array UInt8} {r : List Int}
theorem name_item {i : Nat} (hl : s.heap.IsList l (ps.map (·.1)).toArray) (hrp : RowPairs ps) (hi : i < ps.length) (hz : ps.length ≤ 1000) (h : ∀ b t r, KBw.bInts b = r → r = (nmsOf ps).getD i [] → r.length ≤ 9 → Q (.bytes b t) s)
    (hs : subscripted slice false (.ref l) (.int (i : Int) u) = operate [.ref l, .int (i : Int) u] (getItem (.ref l) (.int (i : Int) u))) : wpAny (model PG w) A (subscriptTail value slice (.ref l) (.int (i : Int) u)) Q E s := by
  refine item_L hl (by omega) (by simpa using hi) (by simp; omega) (fun v hv => ?_) hs
  have e : ps[i]? = some ps[i] := List.getElem?_eq_getElem hi
  have hv' : ps[i].1 = v := by simpa [e] using hv
  obtain ⟨b, t, e1, e2⟩ := (hrp ps[i] (List.getElem_mem hi)).1
  rw [← hv', e1]
  refine h b t _ rfl ?_ e2
  rw [nms_at (x := ps[i].1) (y := ps[i].2) e, e1]
  rfl
theorem index_rows {nn : Nat} (hl : s.heap.get? l = some (listOf (ps.map (·.1)).toArray nn)) (hrp : RowPairs ps) (hb : KBw.bInts b = r) {i : Nat} (hi : i < ps.length) (hr : r = (nmsOf ps).getD i []) (hz : ps.length ≤ 1000)
    (h : Q (.int ((nmsOf ps).idxOf r : Nat) s.toks) { s with toks := s.toks + 1 }) : wpAny (model PG w) A (call (.builtin "list.index") [.ref l, .bytes b t]) Q E s := by
  have hmem : r ∈ nmsOf ps := by rw [hr, List.getD, List.getElem?_eq_getElem (by simpa using hi)]; exact List.getElem_mem _
  have hj : (nmsOf ps).idxOf r < ps.length := by have := List.idxOf_lt_length_iff.mpr hmem; simpa using this
  refine call_meets PySem.F.slot_list_index ⟨_, hl, rfl⟩ PySem.F.entry_list_index (PySem.F.args_list_index_2 _ _)
    (MeetsSeq.list_index l (ps.map (·.1)).toArray nn (.bytes b t) (isRow (KBw.bInts b)) (fun y hy => eq_isRow hrp.names b t y (by simpa using hy)) ((nmsOf ps).idxOf r) (by simpa using hj) (by omega) ?_ ?_) ⟨hl, h⟩
  · have e := List.getElem_idxOf (x := r) (xs := nmsOf ps) (by simpa using hj)
    simp only [List.getElem_map] at e
    simp only [List.getElem_toArray, List.getElem_map, isRow, e, hb]
    simp
  · intro m hm hlt
    have hne := List.not_of_lt_findIdx (p := (· == r)) (xs := nmsOf ps) (i := m) hlt
    simp only [List.getElem_map] at hne
    simp only [List.getElem_toArray, List.getElem_map, isRow, hb]
    simpa using hne
end
theorem tup_uniq {h : Heap} {T : Addr} {a b : Array Value} (x : h.IsTuple T a) (y : h.IsTuple T b) : a = b := by
  obtain ⟨o, h1, _, n, h2⟩ := x
  obtain ⟨o', h3, _, n', h4⟩ := y
  rw [h1] at h3; cases h3
  rw [h2] at h4; cases h4
  rfl
theorem PairsAt.back {h : Heap} {as : List Value} {ps : List (Value × Value)} {i : Nat} {T : Addr} {x y : Value} (hp : PairsAt h as ps) (hv : as[i]? = some (.ref T)) (hT : h.IsTuple T #[x, y]) : ps[i]? = some (x, y) := by
  have hlt : i < ps.length := by rw [← hp.1]; exact (List.getElem?_eq_some_iff.mp hv).1
  obtain ⟨T', e1, e2⟩ := hp.2 i _ _ (List.getElem?_eq_getElem hlt)
  rw [hv] at e1; cases e1
  have e := tup_uniq hT e2
  simp only [Array.mk.injEq, List.cons.injEq, and_true] at e
  rw [List.getElem?_eq_getElem hlt, e.1, e.2]; rfl
/-- the list of answers while it grows -/
noncomputable def DueJ (DU ND : Addr) (ps : List (Value × Value)) (nn : Nat) (f : Nat → Bool) (i : Nat) (nx : List (Addr × Obj)) : Prop :=
  ∃ (ds : List Value) (nd : Nat), nx = [(DU, listOf ds.toArray nd), (ND, listOf (ps.map (·.1)).toArray nn)] ∧ ds.length = i ∧ ∀ j, j < i → ∃ t, ds[j]? = some (.str (ansS (f j)) t)
theorem due_old {nms : List (List Int)} {fls : List (Option (List Int))} {mods dirs : List (List Int)} {dot slash : Int} {i : Nat} {r : List Int} (hi : i < nms.length) (hr : r = nms.getD i []) : dueAt nms fls mods dirs dot slash (nms.idxOf r) = dueAt nms fls mods dirs dot slash i := by
  have hmem : r ∈ nms := by rw [hr, List.getD, List.getElem?_eq_getElem hi]; exact List.getElem_mem _
  have hj : nms.idxOf r < nms.length := List.idxOf_lt_length_iff.mpr hmem
  have e : nms.getD (nms.idxOf r) [] = r := by
    rw [List.getD, List.getElem?_eq_getElem hj]
    exact List.getElem_idxOf hj
  unfold dueAt
  rw [e, ← hr]
theorem due_new {ps : List (Value × Value)} {mods dirs : List (List Int)} {dot slash : Int} {i : Nat} {r r' : List Int} {x y : Value} (hn : ¬ (((nmsOf ps).idxOf r : Nat) : Int) < (i : Int)) (hr : r = (nmsOf ps).getD i []) (hr' : r' = (nmsOf ps).getD i []) (hi : i < ps.length) (hp : ps[((i : Nat) : Int).toNat]? = some (x, y)) :
    ruleB r' (fileOf y) mods dirs dot slash = dueAt (nmsOf ps) (flsOf ps) mods dirs dot slash i := by
  have hil : i < (nmsOf ps).length := by simpa using hi
  have e : (nmsOf ps).idxOf r ≤ i := by
    apply Nat.le_of_not_lt
    intro hlt
    have := List.not_of_lt_findIdx (p := (· == r)) (xs := nmsOf ps) (i := i) hlt
    have e9 : (nmsOf ps)[i] = r := by rw [hr, List.getD, List.getElem?_eq_getElem hil]; rfl
    rw [beq_eq_false_iff_ne] at this
    exact this e9
  have e2 : (nmsOf ps).idxOf r = i := by omega
  unfold dueAt
  rw [← hr, e2, fls_at (by simpa using hp), hr', hr]
theorem due_item {w : World} {Q E : Value → Shared → Prop} {s : Shared} {A : Around} {l : Addr} {ds : List Value} {value slice : Expr} {k i : Nat} {u : Tok} {f : Nat → Bool} (hl : s.heap.IsList l ds.toArray) (hd : ds.length = i) (hj : ∀ j, j < i → ∃ t, ds[j]? = some (.str (ansS (f j)) t)) (hk : (k : Int) < (i : Int)) (hz : i ≤ 1000)
    (h : ∀ t, Q (.str (ansS (f k)) t) s) (hs : subscripted slice false (.ref l) (.int (k : Int) u) = operate [.ref l, .int (k : Int) u] (getItem (.ref l) (.int (k : Int) u))) : wpAny (model PG w) A (subscriptTail value slice (.ref l) (.int (k : Int) u)) Q E s := by
  refine item_L hl (by omega) (by rw [hd]; exact hk) (by omega) (fun v hv => ?_) hs
  obtain ⟨t, e⟩ := hj k (by omega)
  rw [Int.toNat_natCast, e] at hv
  cases hv
  exact h t
theorem sub2 {α : Type} {a b : α} {own : List α} : ∀ p ∈ [a, b], p ∈ a :: b :: own := fun p hp => by
  simp only [List.mem_cons, List.not_mem_nil, or_false] at hp ⊢
  rcases hp with h | h <;> simp [h]
theorem own2 {α : Type} {a b : α} {own : List α} : ∀ p ∈ own, p ∈ a :: b :: own := fun p hp => by simp [hp]
theorem DueJ.next {DU ND : Addr} {ps : List (Value × Value)} {nn nd i : Nat} {f : Nat → Bool} {ds : List Value} {x : Str} {t : Tok} (hd : ds.length = i) (hj : ∀ j, j < i → ∃ t, ds[j]? = some (.str (ansS (f j)) t)) (hx : x = ansS (f i)) :
    DueJ DU ND ps nn f (i + 1) [(DU, listOf (ds ++ [Value.str x t]).toArray nd), (ND, listOf (ps.map (·.1)).toArray nn)] := by
  refine ⟨_, _, rfl, by simp [hd], fun j hj' => ?_⟩
  by_cases e : j < i
  · obtain ⟨t', h⟩ := hj j e
    exact ⟨t', by rw [List.getElem?_append_left (by omega)]; exact h⟩
  · have : j = i := by omega
    subst this
    exact ⟨t, by rw [List.getElem?_append_right (by omega), hd, hx]; simp⟩
section
variable {w : World} {dp un : Nat} {fr : Option (List Env)} {gd : Option (List Code)} {Q E : Value → Shared → Prop} {s : Shared} {mean : ExcName → Option Value} {mg mb : Str → Option Value} {A : Around} {b : Array UInt8} {t u : Tok}
local macro_rules | `(tactic| walk_at "call builtin:len") => `(tactic| (walk_at "mine_len"))
local macro_rules | `(tactic| walk_at "eval ListComp") => `(tactic| (walk_at "mine_lc"))
local macro_rules | `(tactic| walk_at "eval Name") => `(tactic| (walk_at "mine_name"))
local macro_rules | `(tactic| walk_at "pyIter ref") => `(tactic| refine stopHere ?_)
local macro_rules | `(tactic| walk_at "exec For Name Call cons nil") => `(tactic| (walk_at "mine_for"))
local macro_rules | `(tactic| walk_at "subscriptTail") => `(tactic| (k_here; (with_reducible show wpAny _ _ (subscriptTail _ _ (Value.ref _) (Value.int _ _)) _ _ _); (with_reducible rename Fr _ _ _ _ => kF'); (with_reducible rename News _ _ _ _ => kN'); k_dflt (first
  | ((with_reducible show wpAny _ _ (subscriptTail _ _ (Value.ref _) (Value.int 1 _)) _ _ _); refine' snd_T ?k1 ?_ ?hs; (case k1 => assumption); (case hs => with_unfolding_all rfl); (try dsimp only))
  | (refine' name_item (News.isList kN' ?kM) ?k1 ?k2 ?k3 ?_ ?hs; (case kM => k_mem); (case k1 => assumption); (case k2 => omega); (case k3 => omega); (case hs => with_unfolding_all rfl); intro b9 t9 r9 hb9 hr9 hl9; (try dsimp only))
  | (refine' due_item (News.isList kN' ?kM) ?k1 ?k2 ?k3 ?k4 ?_ ?hs; (case kM => k_mem); (case k1 => assumption); (case k2 => assumption); (case k3 => assumption); (case k4 => omega); (case hs => with_unfolding_all rfl); intro t9; (try dsimp only))
  | (refine' pair_L (keepL kF'.keep ?k1) (PairsAt.keeps kF'.keep ?k2) ?k3 ?k4 ?k5 ?_ ?hs; (case k1 => assumption); (case k2 => assumption); (case k3 => omega); (case k4 => omega); (case k5 => omega); (case hs => with_unfolding_all rfl); intro T9 x9 y9 he9 ht9; (try dsimp only)))))
local macro_rules | `(tactic| walk_at "call builtin:list.index") => `(tactic| (k_here; (with_reducible show wpAny _ _ (call (Value.builtin _) [Value.ref _, Value.bytes _ _]) _ _ _); (with_reducible rename News _ _ _ _ => kN'); k_dflt (refine' index_rows (News.get kN' ?kM) ?k1 ?k2 ?k3 ?k4 ?k5 ?_; (case kM => k_mem); (case k1 => assumption); (case k2 => assumption); (case k4 => assumption); (case k3 => omega); (case k5 => omega); (try dsimp only))))
local macro_rules | `(tactic| walk_at "call ref") => `(tactic| (k_here; (with_reducible rename Fr _ _ _ _ => kF'); k_dflt (refine' rule_spec (Frag.In.keeps ?kX kF'.keep) (Top.keeps ?kT kF'.keep) ?kd ?kb ?kl ?kf (keepL kF'.keep ?k1) (keepL kF'.keep ?k2) ?k3 ?k4 ?_; (case kb => k_asm); (case kl => k_asm); (case kf => exact (RowPairs.file (by assumption) (by assumption))); (case k1 => k_asm); (case k2 => k_asm); (case k3 => k_asm); (case k4 => k_asm); (walk_at "mine_ctx"); intro t9 h' tk' hk'; (walk_at "mine_kept"))))
local macro_rules | `(tactic| walk_at "call builtin:list.append") => `(tactic| (walk_at "mine_app"))
set_option maxHeartbeats 800000 in
theorem due_spec {td ts : Tok} {la lm ld : Addr} {as ms ds : List Value} {dot slash : Int} {ps : List (Value × Value)}
    (X : (hd.heap_1 w.params).In s.heap) (T : TT mean mg mb s.heap) (hd : dp < 940) (ha : s.heap.IsList la as.toArray) (hp : PairsAt s.heap as ps) (hrp : RowPairs ps) (hlen : ps.length ≤ 100) (hm : s.heap.IsList lm ms.toArray) (hD : s.heap.IsList ld ds.toArray) (hmr : RowsIn 9 ms) (hdr : RowsIn 9 ds)
    (hQ : ∀ D us n h' tk, Keep s.heap h' → h'.get? D = some (listOf us n) → s.heap.get? D = none → us.size = ps.length → (∀ j, j < ps.length → ∃ t, us[j]? = some (.str (ansS (dueAt (nmsOf ps) (flsOf ps) (ms.map rowOf) (ds.map rowOf) dot slash j)) t)) → Q (.ref D) { s with heap := h', toks := tk }) :
    wpAny (model PG w) (AA dp un fr gd) (call (.ref 165) [.ref la, .ref lm, .ref ld, .int dot td, .int slash ts]) Q E s := by
  have has : as.length = ps.length := hp.1
  refine' enter_pure (binds := [(Str.ofString "asks", .ref la), (Str.ofString "mods", .ref lm), (Str.ofString "dirs", .ref ld), (Str.ofString "dot", .int dot td), (Str.ofString "slash", .int slash ts)]) ?kX ?kT ?k6 ?k7 ?k8 ?k9 ?kB ?_ ?c2 ?c3 ?c4 ?c5
  k_dflt (walk_at "mine_enter")
  k_steps
  all_goals (try dsimp only)
  unfold Stop
  (with_reducible rename Fr _ _ _ _ => F1)
  (with_reducible rename News _ _ _ _ => N1)
  have hp1 := PairsAt.keeps F1.keep hp
  refine src_list2 (fun i y fp => ∃ z, ps[i]? = some (y, z) ∧ fp = []) rfl (keepL F1.keep ha) (by rw [sizeLine_eq]; omega) (by intro b hb; cases hb) rfl rfl rfl ?_ ?_ ?_
  · intro v hv
    obtain ⟨i, hi⟩ := List.mem_iff_getElem?.mp hv
    have hlt := (List.getElem?_eq_some_iff.mp hi).1
    obtain ⟨T, e1, e2⟩ := hp1.2 i _ _ (List.getElem?_eq_getElem (by omega))
    rw [hi] at e1; cases e1
    exact ⟨T, _, _, rfl, e2⟩
  · intro i T x y C h tk m own E' hv hT FC NC
    have hpi := hp1.back hv hT
    k_steps
    all_goals (try dsimp only)
    exact ElF.flat FC NC (fun _ h => h) ⟨_, hpi, rfl⟩
  · intro ND h' tk ys fps hND hpl hy hf hG hF hPw hk
    dsimp only
    have hk' : Keep _ h' := fun b o e => hk b o (by simp) e
    have F2 := Fr.keptAll F1 hk'
    have N2 := News.grown N1 hk'
    have hys : ys = (ps.map (·.1)).toArray := by
      apply Array.toList_inj.mp
      refine List.ext_getElem? fun i => ?_
      by_cases hi : i < ps.length
      · have h1 : ys[i]? = some ys[i] := Array.getElem?_eq_getElem (by omega)
        have h2 : fps[i]? = some fps[i] := List.getElem?_eq_getElem (by omega)
        obtain ⟨z, e, _⟩ := hG i _ _ h1 h2
        simp [e]
      · rw [List.getElem?_eq_none (by simp; omega), List.getElem?_eq_none (by simp; omega)]
    obtain ⟨nn, hNDg⟩ := hpl
    rw [hys] at hNDg
    have hDn : s.heap.get? ND = none := by
      cases e : s.heap.get? ND with
      | none => rfl
      | some o => rw [F1.keep ND o e] at hND; cases hND
    have N3 : News _ _ h' [(ND, listOf (ps.map (·.1)).toArray nn)] := News.more F2 N2 hNDg (by intro es n e; cases e) hDn
    clear N1 N2 F1
    k_steps
    all_goals (try dsimp only)
    unfold Stop
    skip
    (with_reducible rename Fr _ _ _ _ => F3)
    (with_reducible rename News _ _ _ _ => N3)
    rename IsRange _ _ _ _ _ _ _ _ => hR
    rw [has] at hR
    refine for_range [Str.ofString "at"] (DueJ _ ND ps nn (dueAt (nmsOf ps) (flsOf ps) (ms.map rowOf) (ds.map rowOf) dot slash)) rfl hR (by omega) F3 (fun p hp => N3 p (List.mem_cons_of_mem _ hp)) ⟨[], 0, rfl, rfl, fun j hj => absurd hj (by omega)⟩ ?_ ?_
    · rintro i t9 u9 nx h9 tk9 own hi hoff hko ⟨du, nd, rfl, hdl, hdj⟩ F4 N4
      clear F3 N3
      simp only [List.map_cons, List.map_nil, List.cons_append, List.nil_append] at hoff N4
      k_steps
      all_goals (try dsimp only)
      all_goals (with_reducible rename News _ _ _ ((_, _) :: (_, _) :: _) => N9)
      all_goals (simp only [pushL] at N9)
      · rename _ = List.getD _ _ _ => e1
        refine LpEnd.next (by assumption) N9 ?_ sub2 own2 hoff ?_
        · exact DueJ.next hdl hdj (by rw [due_old (by simpa using hi) e1])
        intro z h1 h2; have h3 : z ≠ Str.ofString "at" := (by rintro rfl; simp at h2); simp only [if_neg h1, if_neg h3, h2, Bool.false_eq_true, if_false]
      · rename ¬ (_ : Int) < _ => hn9
        refine LpEnd.next (by assumption) N9 ?_ sub2 own2 hoff ?_
        · exact DueJ.next hdl hdj (congrArg ansS (due_new hn9 (by assumption) (by assumption) hi (by assumption)))
        intro z h1 h2; have h3 : z ≠ Str.ofString "at" := (by rintro rfl; simp at h2); simp only [if_neg h1, if_neg h3, h2, Bool.false_eq_true, if_false]
    · rintro u9 nx h9 tk9 ⟨du, nd, rfl, hdl, hdj⟩ F4 N4
      clear F3 N3
      dsimp only
      k_steps
      all_goals (try dsimp only)
      have hm9 := N4 _ (List.mem_cons_self ..)
      exact hQ _ _ _ _ _ F4.keep hm9.1 hm9.2.2 (by simpa using hdl) (fun j hj => by simpa using hdj j hj)
end
end Mine

end -- D5
theorem Mine.pad_D6 : Mine.PadG := by first | (walk1; fail "pad") | exact trivial
section -- D6
open PySem PySem.W PySem.Calls PyProof.Rows
set_option maxRecDepth 100000
set_option maxHeartbeats 800000
namespace Mine
theorem dummyd6 (w : World) (h : Heap) : (hd.heap_1 w.params).In h → PySem.Challenge.rw_nq0028_01.Holds → True := by
  k_fill
  intro _ _; trivial
theorem names_list {as : List Value} {ps : List (Value × Value)} {ys : Array Value} {fps : List (List (Addr × Obj))} (has : as.length = ps.length) (hy : ys.size = as.length) (hf : fps.length = as.length)
    (hG : ∀ (i : Nat) (y : Value) (f : List (Addr × Obj)), ys[i]? = some y → fps[i]? = some f → ∃ z, ps[i]? = some (y, z) ∧ f = []) : ys = (ps.map (·.1)).toArray := by
  apply Array.toList_inj.mp
  refine List.ext_getElem? fun i => ?_
  by_cases hi : i < ps.length
  · have h1 : ys[i]? = some ys[i] := Array.getElem?_eq_getElem (by omega)
    have h2 : fps[i]? = some fps[i] := List.getElem?_eq_getElem (by omega)
    obtain ⟨z, e, _⟩ := hG i _ _ h1 h2
    simp [e]
  · rw [List.getElem?_eq_none (by simp; omega), List.getElem?_eq_none (by simp; omega)]
theorem RowPairs.at {ps : List (Value × Value)} {i : Nat} {v : Value} (h : RowPairs ps) (hv : (ps.map (·.1))[i]? = some v) : ∃ b t r, v = .bytes b t ∧ KBw.bInts b = r ∧ r = (nmsOf ps).getD i [] ∧ r.length ≤ 9 := by
  obtain ⟨p, hp, rfl⟩ : ∃ p, ps[i]? = some p ∧ p.1 = v := by simpa using hv
  obtain ⟨b, t, e, l⟩ := (h p (List.mem_of_getElem? hp)).1
  exact ⟨b, t, _, e, rfl, by rw [nms_at (x := p.1) (y := p.2) hp, e]; rfl, l⟩
theorem comp_all {n : Nat} {ys : Array Value} {fps : List (List (Addr × Obj))} {G : Nat → Value → List (Addr × Obj) → Prop} (hy : ys.size = n) (hf : fps.length = n) (hG : ∀ (i : Nat) y f, ys[i]? = some y → fps[i]? = some f → G i y f) (j : Nat) (hj : j < n) :
    ∃ y f, ys[j]? = some y ∧ fps[j]? = some f ∧ G j y f := by
  have h1 : ys[j]? = some ys[j] := Array.getElem?_eq_getElem (by omega)
  have h2 : fps[j]? = some fps[j] := List.getElem?_eq_getElem (by omega)
  exact ⟨_, _, h1, h2, hG j _ _ h1 h2⟩
theorem assigned {h₀ h h' : Heap} {L : Addr} {m m' : Str → Option Value} (F : Fr h₀ L h m) (hk : ∀ b o, b ∉ [L] → h.get? b = some o → h'.get? b = some o) (hn : h'.Ns L m') : Fr h₀ L h' m' := by
  refine ⟨hn, fun b o e => hk b o ?_ (F.keep b o e), F.above⟩
  intro hb
  have hlt := Heap.lt_size e
  rw [List.mem_singleton.mp hb] at hlt
  exact absurd (Nat.lt_of_lt_of_le hlt F.above) (Nat.lt_irrefl _)
theorem assigned1 {h₀ h h' : Heap} {L D : Addr} {m : Str → Option Value} {o : Obj} (F : Fr h₀ L h m) (hD : h.get? D = none) (hg : h'.get? D = some o) : News h₀ L h' [(D, o)] := by
  intro p hp
  rw [List.mem_singleton.mp hp]
  refine ⟨hg, ?_, ?_⟩
  · rintro rfl
    obtain ⟨o, _, _, ho, _⟩ := F.ns
    rw [hD] at ho; cases ho
  · cases q : h₀.get? D with
    | none => rfl
    | some o => have := F.keep _ _ q; rw [hD] at this; cases this
section
variable {prog : Program} {w : World} {A : Around} {E : Value → Shared → Prop} {env : Env} {s : Shared} {elt target iter : Expr} {scope : Scope} {cl : List (Str × Addr)} {pos : Pos}
/-- comp_assign, the walk standing still behind the source -/
theorem comp_assignS {Q : Flow → Shared → Prop} {y : Str} {py spos : Pos} {L : Addr} {h₀ : Heap} (hsw : swapsWith (.ListComp elt [⟨target, iter, [], 0⟩] scope pos) (some (.Name y py)) spos.line env = pure true)
    (hclos : closureFor scope env = pure cl) (hcell : ∀ y ∈ scope.names, y.2 ≠ .cell) (hkind : scope.kind = .function)
    (hnames : ∀ y ∈ scope.names, y.2 = .local → scope.names.lookup y.1 = some .local) (hs : ∀ x, foldedSetIterable iter env x = pure x)
    (hL : env.locals = L) (hy : env.kindOf y = some .local) (hp : (env.scope.kind == .class || (env.scope.kind == .module && env.locals != env.globals)) = false)
    (h : wpAny (model prog w) A (eval iter env) (fun xv s₁ => Stop (∃ m, Fr h₀ L s₁.heap m ∧ wpAny (model prog w) A (pyIter xv) (fun it s₂ => (∀ b o, s₁.heap.get? b = some o → s₂.heap.get? b = some o) ∧ CompAt prog w A env target elt scope cl [L] (fun D s' => s'.heap.Ns L (fun z => if z = y then some (.ref D) else m z) → Q .next s') it s₂) E s₁)) E s) :
    wpAny (model prog w) A (exec (.Assign [.Name y py] (.ListComp elt [⟨target, iter, [], 0⟩] scope pos) spos) env) Q E s := by
  refine comp_assign (h₀ := h₀) hsw hclos hcell hkind hnames hs hL hy hp (wpAny_mono h (fun xv s₁ h₁ => ?_) fun _ _ e => e)
  obtain ⟨m, F, h₂⟩ := h₁
  exact ⟨m, F, wpAny_mono h₂ (fun it s₂ h₃ => ⟨F.ns.at' fun o e => h₃.1 _ o e, h₃.2⟩) fun _ _ e => e⟩
end
section
variable {w : World} {dp un : Nat} {fr : Option (List Env)} {gd : Option (List Code)} {Q E : Value → Shared → Prop} {s : Shared} {mean : ExcName → Option Value} {mg mb : Str → Option Value} {A : Around} {b : Array UInt8} {t u : Tok}
local macro_rules | `(tactic| walk_at "eval ListComp") => `(tactic| (walk_at "mine_lc"))
local macro_rules | `(tactic| walk_at "eval Name") => `(tactic| (walk_at "mine_name"))
local macro_rules | `(tactic| walk_at "pyIter ref") => `(tactic| refine stopHere ?_)
local macro_rules | `(tactic| walk_at "exec Assign cons ListComp") => `(tactic| refine stopHere ?_)
local macro_rules | `(tactic| walk_at "call ref") => `(tactic| (k_here; (with_reducible rename Fr _ _ _ _ => kF'); k_dflt ((first | refine' b64_alt (i := 45) (j := 95) (Frag.In.keeps ?kX kF'.keep) (Top.keeps ?kT kF'.keep) ?kd ?kb ?kl rfl ?_ | refine' urlsafe_spec (Frag.In.keeps ?kX kF'.keep) (Top.keeps ?kT kF'.keep) ?kd ?kb ?kl ?_); (case kb => assumption); (case kl => omega); (walk_at "mine_ctx"); intro b' t' h' tk' hk' e'; (walk_at "mine_kept"))))
theorem safe_spec {la : Addr} {as : List Value} {ps : List (Value × Value)}
    (X : (hd.heap_1 w.params).In s.heap) (T : TT mean mg mb s.heap) (hd : dp < 940) (hu : un < 1000) (ha : s.heap.IsList la as.toArray) (hp : PairsAt s.heap as ps) (hrp : RowPairs ps) (hlen : ps.length ≤ 100)
    (hQ : ∀ h' tk, Keep s.heap h' → Q (.bool true) { s with heap := h', toks := tk }) :
    wpAny (model PG w) (AA dp un fr gd) (call (.ref 185) [.ref la]) Q E s := by
  have has : as.length = ps.length := hp.1
  refine' enter_pure (binds := [(Str.ofString "asks", .ref la)]) ?kX ?kT ?k6 ?k7 ?k8 ?k9 ?kB ?_ ?c2 ?c3 ?c4 ?c5
  k_dflt (walk_at "mine_enter")
  k_steps
  all_goals (try dsimp only)
  unfold Stop
  (with_reducible rename Fr _ _ _ _ => F1)
  (with_reducible rename News _ _ _ _ => N1)
  refine' comp_assignS (h₀ := s.heap) ?hsw ?hclos ?hcell ?hkind ?hnames ?hs ?hL ?hy ?hp ?_
  case hsw => with_unfolding_all rfl
  case hclos => exact rfl
  case hcell => decide
  case hkind => exact rfl
  case hnames => decide
  case hs => (intro _; rfl)
  case hL => exact rfl
  case hy => exact rfl
  case hp => exact rfl
  k_steps
  unfold Stop
  have hp1 := PairsAt.keeps F1.keep hp
  refine ⟨_, F1, src_list2K (fun i y fp => ∃ z, ps[i]? = some (y, z) ∧ fp = []) rfl (keepL F1.keep ha) (by rw [sizeLine_eq]; omega) ?_ rfl rfl rfl ?_ ?_ ?_⟩
  · intro b hb
    rw [List.mem_singleton.mp hb]
    obtain ⟨o, _, _, ho, _⟩ := F1.ns
    exact ⟨o, ho⟩
  · intro v hv
    obtain ⟨i, hi⟩ := List.mem_iff_getElem?.mp hv
    have hlt := (List.getElem?_eq_some_iff.mp hi).1
    obtain ⟨T, e1, e2⟩ := hp1.2 i _ _ (List.getElem?_eq_getElem (by omega))
    rw [hi] at e1; cases e1
    exact ⟨T, _, _, rfl, e2⟩
  · intro i T x y C h tk m own E' hv hT FC NC
    have hpi := hp1.back hv hT
    k_steps
    all_goals (try dsimp only)
    exact ElF.flat FC NC (fun _ h => h) ⟨_, hpi, rfl⟩
  · intro ND h' tk ys fps hND hpl hy hf hG hF hPw hk hNs
    dsimp only
    have F2 := assigned F1 hk hNs
    have hys := names_list has hy hf hG
    obtain ⟨nn, hNDg⟩ := hpl
    rw [hys] at hNDg
    have N2 : News s.heap _ h' [(ND, listOf (ps.map (·.1)).toArray nn)] := assigned1 F1 hND hNDg
    clear N1 F1
    k_steps
    all_goals (try dsimp only)
    unfold Stop
    have hNDl : h'.IsList ND (ps.map (·.1)).toArray := ⟨_, hNDg, rfl, _, rfl⟩
    refine src_listN (fun i y fp => (∃ b t, y = .bytes b t ∧ KBw.bInts b = encBy (fun f => tr 45 95 (bch f)) ((nmsOf ps).getD i [])) ∧ fp = []) rfl hNDl (by rw [sizeLine_eq]; simp; omega) (by intro b hb; cases hb) rfl rfl ?_ ?_
    · intro i v C h tk m own E' hv FC NC
      have X' := X.keeps F2.keep
      have T' := Top.keeps T F2.keep
      obtain ⟨b9, t9, r9, rfl, e9, e8, l9⟩ := hrp.at hv
      k_steps
      all_goals (try dsimp only)
      exact ElF.flat (by assumption) (by assumption) (fun _ h => h) ⟨⟨_, _, rfl, by rw [← e8]; assumption⟩, rfl⟩
    · intro UD h3 tk us fps hUD hpl hy hf hG hF hPw hk
      dsimp only
      have hk' : Keep _ h3 := fun b o e => hk b o (by simp) e
      have F3 := Fr.keptAll F2 hk'
      obtain ⟨nu, hUDg⟩ := hpl
      have N3 : News s.heap _ h3 [(UD, listOf us nu), (ND, listOf (ps.map (·.1)).toArray nn)] := news_all (ents := [(UD, listOf us nu)]) F2 (fun p hp => by rw [List.mem_singleton.mp hp]; exact ⟨hUDg, hUD⟩) (News.grown N2 hk')
      have hu2 : ∀ j, j < ps.length → ∃ b t, us[j]? = some (.bytes b t) ∧ KBw.bInts b = encBy (fun f => tr 45 95 (bch f)) ((nmsOf ps).getD j []) := by
        intro j hj
        obtain ⟨y, f, h1, h2, ⟨b, t, e1, e2⟩, _⟩ := comp_all hy hf hG j (by simpa using hj)
        exact ⟨b, t, by rw [h1, e1], e2⟩
      have husz : us.size = ps.length := by rw [hy]; simp
      have hNDl3 := keepL hk' hNDl
      clear hy hf hG hF hPw hk F2 N2 hNs
      k_unmd
      refine' comp_eval ?hclos ?hcell ?hkind ?hnames ?hs ?_
      case hclos => exact rfl
      case hcell => decide
      case hkind => exact rfl
      case hnames => decide
      case hs => (intro _; rfl)
      k_steps
      all_goals (try dsimp only)
      unfold Stop
      refine src_listN (fun i y fp => (∃ b t, y = .bytes b t ∧ KBw.bInts b = encBy (fun f => tr 45 95 (bch f)) ((nmsOf ps).getD i [])) ∧ fp = []) rfl hNDl3 (by rw [sizeLine_eq]; simp; omega) (by intro b hb; cases hb) rfl rfl ?_ ?_
      · intro i v C h tk m own E' hv FC NC
        have X' := X.keeps F3.keep
        have T' := Top.keeps T F3.keep
        obtain ⟨b9, t9, r9, rfl, e9, e8, l9⟩ := hrp.at hv
        k_steps
        all_goals (try dsimp only)
        exact ElF.flat (by assumption) (by assumption) (fun _ h => h) ⟨⟨_, _, rfl, by rw [← e8]; assumption⟩, rfl⟩
      · intro AD h4 tk vs fps hAD hpl hy hf hG hF hPw hk
        dsimp only
        have hk4 : Keep _ h4 := fun b o e => hk b o (by simp) e
        have F4 := Fr.keptAll F3 hk4
        have N4 := News.grown N3 hk4
        have hUL := News.isList N4 (List.Mem.head _)
        refine PySem.SeqAt.eq_listAt (e := fun _ => true) hUL hpl.isList ?_ ?_ ?_ ?_
        · rw [hy, husz]; simp
        · dsimp only [AA, Around.deeper]
          unfold cLine; omega
        · intro j h1 h2
          obtain ⟨b, t, e1, e2⟩ := hu2 j (by omega)
          obtain ⟨y, f, g1, g2, ⟨c, u, e3, e4⟩, _⟩ := comp_all hy hf hG j (by simp; omega)
          rw [Array.getElem?_eq_getElem h1] at e1
          rw [Array.getElem?_eq_getElem h2] at g1
          have e1' := Option.some.inj e1
          have g1' := Option.some.inj g1
          rw [e1', g1', e3]
          intro prog w' E' Q' hq
          refine eqBool_bytes ?_
          have e5 : b = c := bInts_inj (e2.trans e4.symm)
          rw [e5]
          simpa using hq
        · have e6 : ((List.range us.size).all fun _ => true) = true := by simp
          rw [e6]
          exact hQ _ _ F4.keep
end
end Mine

end -- D6
theorem Mine.pad_M1 : Mine.PadG := by first | (walk1; fail "pad") | exact trivial
section -- M1
open PySem PySem.W PySem.Calls PyProof.Rows
set_option maxRecDepth 100000
set_option maxHeartbeats 800000
namespace Mine
/-- a heap with some places taken out -/
noncomputable def hide (h : Heap) (as : List Addr) : Heap := { h with objs := h.objs.mapIdx fun i o => if as.contains i then { cls := .none, data := .freed } else o }
theorem hide_size (h : Heap) (as : List Addr) : (hide h as).objs.size = h.objs.size := by simp [hide]
theorem hide_get (h : Heap) (as : List Addr) (b : Addr) (hb : b ∉ as) : (hide h as).get? b = h.get? b := by
  unfold Heap.get? hide
  cases q : h.objs[b]? with
  | none => simp [q]
  | some o => simp [q, hb]
theorem hide_none (h : Heap) (as : List Addr) (b : Addr) (hb : b ∈ as) : (hide h as).get? b = none := by
  unfold Heap.get? hide
  cases q : h.objs[b]? with
  | none => simp [q]
  | some o => simp [q, hb]
/-- all but some places is kept -/
noncomputable def KeepBut (h h' : Heap) (as : List Addr) : Prop := ∀ b o, b ∉ as → h.get? b = some o → h'.get? b = some o
section
variable {w : World} {A : Around} {R : Result → Shared → Prop} {s : Shared} {mean : ExcName → Option Value} {mg mb : Str → Option Value} {K : Frag} {h₀ : Heap} {ch : List Addr} {ents : List (Addr × Obj)}
    {name qual : Str} {params : Arguments} {body : List Stmt} {scope : Scope} {dV kV doc pm cdv ct oc : Value} {an od : Option Addr} {osl : Array (Option Value)} {f : Addr} {args : List Value} {kw : List (Str × Value)} {binds : List (Str × Value)}
theorem code_mut (X : K.In h₀) (T : TT mean mg mb h₀) (k₀ : Keep h₀ s.heap) (hm : ∀ a ∈ ch, h₀.get? a = none) (he : ∀ p ∈ ents, s.heap.get? p.1 = some p.2 ∧ p.1 ∈ ch)
    (ho : K.lookup f = some ⟨oc, od, .func (fnOf name qual params body scope dV kV doc pm an cdv ct), osl⟩) (hcd : codeIn K cdv qual = true) (hroom : A.depth < recursionLimit)
    (hbind : BindsTo s (fnOf name qual params body scope dV kV doc pm an cdv ct) ⟨args, kw⟩ binds) (hloc : ∀ y ∈ binds, scope.names.lookup y.1 = some .local)
    (h : ∀ g L h₁, (∀ b o, b ∉ ch → s.heap.get? b = some o → g.get? b = some o) → K.In g → TT mean mg mb g → Fr g L h₁ (fun y => binds.reverse.lookup y) → News g L h₁ ents →
      wpAny (model PG w) (A.deeper (envOf qual scope L f cdv)) (execs body (envOf qual scope L f cdv))
        (fun fl s' => R (.ok (.ret (match fl with | .ret v => v | _ => .none))) s') (fun _ _ => False)
        { s with heap := h₁, toks := s.toks + binds.length })
    (hco : scope.isCoroutine = false) (hgen : scope.isGenerator = false) (hk : scope.kind = .function)
    (hcell : ∀ x ∈ scope.names, x.2 ≠ .cell) : codeAny (model PG w) A (.call (.ref f) ⟨args, kw⟩) R s := by
  have Xs := X.keeps k₀
  have kg : ∀ b o, h₀.get? b = some o → (hide s.heap ch).get? b = some o := fun b o e => by
    rw [hide_get _ _ _ (fun hb => by rw [hm b hb] at e; cases e)]; exact k₀ b o e
  refine codeAny_call_def (fd := fnOf name qual params body scope dV kV doc pm an cdv ct) (body := body) (binds := binds) hroom (Xs _ _ ho) rfl (Top.keeps T k₀).nolimit (codeRec_of Xs hcd) rfl hbind hcell hloc (fun h₁ hns hk₁ => ?_) hco hgen hk
  have hF : Fr (hide s.heap ch) s.heap.objs.size h₁ (fun y => binds.reverse.lookup y) := ⟨hns, fun b o e => by
    by_cases hb : b ∈ ch
    · rw [hide_none _ _ _ hb] at e; cases e
    · rw [hide_get _ _ _ hb] at e; exact hk₁ b o e, Nat.le_of_eq (hide_size ..)⟩
  have hN : News (hide s.heap ch) s.heap.objs.size h₁ ents := fun p hp => ⟨hk₁ _ _ (he p hp).1, Nat.ne_of_lt (Heap.lt_size (he p hp).1), hide_none _ _ _ (he p hp).2⟩
  exact wpAny_mono (h _ _ h₁ (fun b o hb e => by rw [hide_get _ _ _ hb]; exact e) (X.keeps kg) (Top.keeps T kg) hF hN) (fun _ _ x => x) (fun _ _ x => x.elim)
/-- the same for a def with cells -/
theorem code_mutC (X : K.In h₀) (T : TT mean mg mb h₀) (k₀ : Keep h₀ s.heap) (hm : ∀ a ∈ ch, h₀.get? a = none) (he : ∀ p ∈ ents, s.heap.get? p.1 = some p.2 ∧ p.1 ∈ ch)
    (ho : K.lookup f = some ⟨oc, od, .func (fnOf name qual params body scope dV kV doc pm an cdv ct), osl⟩) (hcd : codeIn K cdv qual = true) (hroom : A.depth < recursionLimit)
    (hbind : BindsTo s (fnOf name qual params body scope dV kV doc pm an cdv ct) ⟨args, kw⟩ binds)
    (hkind : (binds.all fun y => scope.names.lookup y.1 == some .local || scope.names.lookup y.1 == some .cell) = true)
    (hnd : ((cellsFrom 0 scope.names []).map (·.1)).Nodup)
    (h : ∀ g L h₁ tk cells, (∀ b o, b ∉ ch → s.heap.get? b = some o → g.get? b = some o) → K.In g → TT mean mg mb g → Fr g L h₁ (bindL (envOfC qual scope L f cdv).kindOf binds fun _ => none) → News g L h₁ (cells ++ ents) →
      CellsAre (bindC (envOfC qual scope L f cdv).kindOf binds fun _ => none) (cellsFrom (L + 1) scope.names []) cells → (∀ p ∈ ents, p.1 < L) →
      wpAny (model PG w) (A.deeper (envOfC qual scope L f cdv)) (execs body (envOfC qual scope L f cdv))
        (fun fl s' => R (.ok (.ret (match fl with | .ret v => v | _ => .none))) s') (fun _ _ => False)
        { s with heap := h₁, toks := tk })
    (hco : scope.isCoroutine = false) (hgen : scope.isGenerator = false) (hk : scope.kind = .function) : codeAny (model PG w) A (.call (.ref f) ⟨args, kw⟩) R s := by
  have Xs := X.keeps k₀
  have kg : ∀ b o, h₀.get? b = some o → (hide s.heap ch).get? b = some o := fun b o e => by
    rw [hide_get _ _ _ (fun hb => by rw [hm b hb] at e; cases e)]; exact k₀ b o e
  refine codeAny_call_function hroom (Xs _ _ ho) rfl hco hgen rfl (codeRec_of Xs hcd) (hbind _ _ _ _ ?_)
  refine wpAny_newFunctionEnv_cells hk (kindsX hkind _) fun env' he' s' x => ?_
  subst he'
  refine ⟨(Top.keeps T k₀).nolimit.keeps x.toInCall.keep, codeAny_func ?_⟩
  obtain ⟨h₁, tk, rfl, _⟩ := x.done
  obtain ⟨cells, NC, Y⟩ := Cl.news (h₀ := s.heap) (Nat.le_refl _) fun n c hm => ⟨x.cell n c (lookup_of_mem_nodup (cellsFrom_names scope.names 0 (s.heap.objs.size + 1) [] [] rfl ▸ hnd) hm), x.above n c hm⟩
  have hk₁ := x.toInCall.keep
  have hF : Fr (hide s.heap ch) s.heap.objs.size h₁ (bindL (envOfC qual scope s.heap.objs.size f cdv).kindOf binds fun _ => none) := ⟨x.toInCall.ns, fun b o e => by
    by_cases hb : b ∈ ch
    · rw [hide_none _ _ _ hb] at e; cases e
    · rw [hide_get _ _ _ hb] at e; exact hk₁ b o e, Nat.le_of_eq (hide_size ..)⟩
  have hN : News (hide s.heap ch) s.heap.objs.size h₁ (cells ++ ents) := fun p hp => by
    rcases List.mem_append.mp hp with hp | hp
    · refine ⟨(NC p hp).1, (NC p hp).2.1, ?_⟩
      by_cases hb : p.1 ∈ ch
      · exact hide_none _ _ _ hb
      · rw [hide_get _ _ _ hb]; exact (NC p hp).2.2
    · exact ⟨hk₁ _ _ (he p hp).1, Nat.ne_of_lt (Heap.lt_size (he p hp).1), hide_none _ _ _ (he p hp).2⟩
  exact wpAny_mono (h _ _ h₁ tk cells (fun b o hb e => by rw [hide_get _ _ _ hb]; exact e) (X.keeps kg) (Top.keeps T kg) hF hN Y (fun p hp => Heap.lt_size (he p hp).1)) (fun _ _ y => y) (fun _ _ y => y.elim)
end
/-- what a caller knows behind a call that changes some of its things -/
theorem Fr.but {h₀ h h' : Heap} {L : Addr} {m : Str → Option Value} {ch : List Addr} (F : Fr h₀ L h m) (k : KeepBut h h' ch) (hL : L ∉ ch) (hm : ∀ a ∈ ch, h₀.get? a = none) : Fr h₀ L h' m :=
  ⟨F.ns.at' fun o e => k L o hL e, fun b o e => k b o (fun hb => by rw [hm b hb] at e; cases e) (F.keep b o e), F.above⟩
theorem News.but {h₀ h h' : Heap} {L : Addr} {ch : List Addr} {rest ents : List (Addr × Obj)} (N : News h₀ L h rest) (k : KeepBut h h' ch) (hr : ∀ p ∈ rest, p.1 ∉ ch) (he : ∀ p ∈ ents, h'.get? p.1 = some p.2 ∧ p.1 ≠ L ∧ h₀.get? p.1 = none) : News h₀ L h' (ents ++ rest) := by
  intro p hp
  rcases List.mem_append.mp hp with hp | hp
  · exact he p hp
  · exact ⟨k _ _ (hr p hp) (N p hp).1, (N p hp).2⟩
end Mine

end -- M1
theorem Mine.pad_S1 : Mine.PadG := by first | (walk1; fail "pad") | exact trivial
section -- S1
open PySem PySem.W PySem.Calls PyProof.Rows PySem.Spec
set_option maxRecDepth 100000
set_option maxHeartbeats 3200000
namespace Mine
/-- which texts are among the first i -/
noncomputable def among (val : Nat → Str) (i : Nat) (k : Str) : Bool := (List.range i).any fun j => val j == k
theorem among_succ (val : Nat → Str) (i : Nat) (k : Str) : (among val i k || decide (k = val i)) = among val (i + 1) k := by
  unfold among
  rw [List.range_succ, List.any_append]
  congr 1
  by_cases e : k = val i
  · subst e; simp
  · have : (val i == k) = false := by simpa using fun h : val i = k => e h.symm
    simp [e, this]
end Mine

end -- S1
theorem Mine.pad_S2 : Mine.PadG := by first | (walk1; fail "pad") | exact trivial
section -- S2
open PySem PySem.W PySem.Calls PyProof.Rows PySem.Spec
set_option maxRecDepth 100000
set_option maxHeartbeats 800000
namespace Mine
theorem standIn_led (t : SetTable) (n : Nat) : (t.orStandIn n).led = t.led ∧ (t.plain = false → (t.orStandIn n).plain = false) := by
  unfold SetTable.orStandIn
  split
  · exact ⟨rfl, id⟩
  · exact ⟨rfl, fun _ => rfl⟩
theorem put_led (t : SetTable) (j : Nat) : (t.put j).1.led = t.led ∧ (t.put j).1.plain = t.plain := ⟨rfl, rfl⟩
theorem layNew_led (t : SetTable) (es : Array (Int × Value)) (h : Int) (x : Value) : (layNew t es h x).2.1.led = t.led ∧ (t.plain = false → (layNew t es h x).2.1.plain = false) := by
  unfold layNew
  split
  · rename_i slot d _
    have e := standIn_led (t.put slot).1 (SetTable.insertAt es (t.put slot).2 (h, x)).size
    exact ⟨e.1, fun hp => e.2 hp⟩
  · exact ⟨rfl, fun _ => rfl⟩
theorem laid_led {mask finger moves : Nat} {led plain : Bool} {hs : Array Int} {t : SetTable} {o : Array Nat} (h : SetTable.laid mask finger moves led plain hs = some (t, o)) : t.led = led ∧ t.plain = plain := by
  unfold SetTable.laid at h
  cases q : SetTable.layClean mask hs with
  | none => rw [q] at h; cases h
  | some owner => rw [q] at h; cases h; exact ⟨rfl, rfl⟩
theorem relayAll_led (t : SetTable) (es : Array (Int × Value)) (n : Nat) : (relayAll t es n).2.1.led = t.led ∧ (t.plain = false → (relayAll t es n).2.1.plain = false) := by
  unfold relayAll
  split
  · rename_i t' order q
    have e := laid_led q
    dsimp only
    split
    · exact ⟨e.1, fun hp => e.2.trans hp⟩
    · exact ⟨rfl, fun _ => rfl⟩
  · exact ⟨rfl, fun _ => rfl⟩
/-- a set of texts, with what its table keeps -/
noncomputable def SetL (prog : Program) (w : World) (h : Heap) (a : Addr) (S : Str → Bool) (n : Nat) : Prop :=
  ∃ o es ep t, h.get? a = some o ∧ o.ExactSet ∧ o.data = .set es ep t ∧ ElemsOf (strKind prog w) es.toList ∧ (∀ k, S k = true ↔ ∃ e ∈ es.toList, (strKind prog w).is k e.2 = true)
    ∧ es.size < scanBound ∧ t.fits es.size = true ∧ es.size = n ∧ t.led = !(w.params.followText "set-order") ∧ (0 < es.size → t.plain = false)
section
variable {prog : Program} {w : World} {A : Around} {E : Value → Shared → Prop} {s : Shared}
theorem SetL.of {h : Heap} {a : Addr} {S : Str → Bool} {n : Nat} (x : SetL prog w h a S n) : h.SetOf (strKind prog w) a S n := by
  obtain ⟨o, es, ep, t, h1, h2, h3, h4, h5, h6, h7, h8, _⟩ := x
  exact ⟨o, es, ep, t, h1, h2, h3, h4, h5, h6, h7, h8⟩
theorem SetL_store {h : Heap} {a : Addr} {o : Obj} {es : Array (Int × Value)} {ep : Nat} {t : SetTable} (ho : h.get? a = some o) (hex : o.ExactSet) (hd : o.data = .set es ep t)
    {es' : Array (Int × Value)} {t' : SetTable} {S' : Str → Bool} (hel : ElemsOf (strKind prog w) es'.toList) (hmem : ∀ k, S' k = true ↔ ∃ e ∈ es'.toList, (strKind prog w).is k e.2 = true) (hb : es'.size < scanBound) (hf : t'.fits es'.size = true)
    (hl : t'.led = !(w.params.followText "set-order")) (hp : t'.plain = false) :
    (h.update a (Obj.putSet es' t')).get? a = some { o with data := .set es' (ep + 1) t' } ∧ SetL prog w (h.update a (Obj.putSet es' t')) a S' es'.size := by
  have hg : (h.update a (Obj.putSet es' t')).get? a = some { o with data := .set es' (ep + 1) t' } := by
    have := Heap.get?_update_self (Obj.putSet es' t') ho (by rw [putSet_of es' t' hd]; rfl)
    rw [putSet_of es' t' hd] at this; exact this
  exact ⟨hg, _, es', ep + 1, t', hg, hex, rfl, hel, hmem, hb, hf, rfl, hl, fun _ => hp⟩
theorem SetL_tail {g : Bool → Sem Unit} (hg : ∀ (b : Bool) (s₁ : Shared) (Q' : Unit → Shared → Prop), Q' () s₁ → wpAny (model prog w) A (g b) Q' E s₁)
    {a : Addr} {o : Obj} {es : Array (Int × Value)} {ep : Nat} {t : SetTable} (ho : s.heap.get? a = some o) (hex : o.ExactSet) (hd : o.data = .set es ep t)
    {es1 : Array (Int × Value)} {t2 : SetTable} {S' : Str → Bool} (hel1 : ElemsOf (strKind prog w) es1.toList) (hmem1 : ∀ k', S' k' = true ↔ ∃ e ∈ es1.toList, (strKind prog w).is k' e.2 = true)
    (hb1 : es1.size < scanBound) (hf2 : t2.fits es1.size = true) (hl2 : t2.led = !(w.params.followText "set-order")) (hp2 : t2.plain = false) {wasDummy : Bool} {R : Option Bool → Shared → Prop}
    (h : ∀ h', Heap.SameBut a s.heap h' → SetL prog w h' a S' es1.size → R (some true) { s with heap := h' }) :
    wpAny (model prog w) A (do
        storeSet a es1 t2
        if (!wasDummy && t2.tooFull) = true then do
            g (relayAll t2 es1 (SetTable.grown es1.size)).2.2
            storeSet a (relayAll t2 es1 (SetTable.grown es1.size)).1 (relayAll t2 es1 (SetTable.grown es1.size)).2.1
            pure (some true)
          else pure (some true)) R E s := by
  refine wpAny_bind (wpAny_storeSet_of ho hd ?_ (fits_of_scanBound hb1))
  obtain ⟨ho1, hS1⟩ := SetL_store ho hex hd hel1 hmem1 hb1 hf2 hl2 hp2
  have hsb1 := Heap.SameBut.update s.heap a (Obj.putSet es1 t2)
  split
  · have hp := relayAll_perm t2 es1 (SetTable.grown es1.size)
    have hfr := relayAll_fits t2 es1 (SetTable.grown es1.size)
    have hlr := relayAll_led t2 es1 (SetTable.grown es1.size)
    generalize relayAll t2 es1 (SetTable.grown es1.size) = Rl at hp hfr hlr ⊢
    obtain ⟨es2, t3, gave2⟩ := Rl
    dsimp only at hp hfr hlr ⊢
    have hsz : es2.size = es1.size := by rw [← Array.length_toList, hp.length_eq, Array.length_toList]
    have hb2 : es2.size < scanBound := by rw [hsz]; exact hb1
    refine wpAny_bind (hg _ _ _ ?_)
    refine wpAny_bind (wpAny_storeSet_of ho1 rfl ?_ (fits_of_scanBound hb2))
    obtain ⟨_, hS2⟩ := SetL_store ho1 hex rfl (hel1.perm hp) (fun k' => (hmem1 k').trans ⟨fun ⟨e, he, q⟩ => ⟨e, hp.mem_iff.mpr he, q⟩, fun ⟨e, he, q⟩ => ⟨e, hp.mem_iff.mp he, q⟩⟩) hb2 hfr (hlr.1.trans hl2) (hlr.2 hp2)
    rw [hsz] at hS2
    exact wpAny_pure (h _ (hsb1.trans (Heap.SameBut.update _ a _)) hS2)
  · exact wpAny_pure (h _ hsb1 hS1)
theorem setL_add {a : Addr} {S : Str → Bool} {n : Nat} {k : Str} {tx : Tok} {Q : Bool → Shared → Prop} (hS : SetL prog w s.heap a S n) (hroom : n + 1 < scanBound)
    (h : ∀ h', Heap.SameBut a s.heap h' → SetL prog w h' a (fun k' => S k' || decide (k' = k)) (if S k then n else n + 1) → Q (!S k) { s with heap := h' }) :
    wpAny (model prog w) A (setAddHashed a (.str k tx) ((strKind prog w).hash k)) Q E s := by
  obtain ⟨o, es, ep, t, ho, hex, hd, hel, hmem, hb, hf, hn, hled, hpl⟩ := hS
  have hkey : (strKind prog w).is k (.str k tx) = true := strKind_is _ _ _ _
  have hsc : (Value.str k tx).scannable = true := rfl
  have hb1 : es.size + 1 < scanBound := by rw [hn]; exact hroom
  unfold setAddHashed setAddHashedIn
  refine wpAny_holding (wpAny_bind (wpAny_setState_of ho hd hf ?_))
  dsimp only
  rw [byScan_of hsc hb hel]
  simp only [↓reduceIte]
  unfold setAddByScan
  refine wpAny_bind ?_
  refine wpAny_bind (wpAny_rule ?_)
  refine wpAny_bind (wpAny_setScan_of hkey ho hd hf hel ?_)
  cases hr : List.findIdx? (fun e => (strKind prog w).is k e.2) es.toList with
  | some j =>
    dsimp only
    obtain ⟨hj, hpj, _⟩ := List.findIdx?_eq_some_iff_getElem.mp hr
    have hSk : S k = true := (hmem k).mpr ⟨es.toList[j], List.getElem_mem hj, hpj⟩
    refine wpAny_pure (wpAny_pure ?_)
    have e : s = { s with heap := s.heap } := by cases s; rfl
    have := h s.heap (Heap.SameBut.refl a s.heap) ⟨o, es, ep, t, ho, hex, hd, hel, fun k' => by
      rw [Bool.or_eq_true, decide_eq_true_eq, ← hmem k']
      exact ⟨fun hk => hk.elim id (fun e => e ▸ hSk), .inl⟩, hb, hf, by rw [hSk]; exact hn, hled, hpl⟩
    rw [hSk] at this; rw [e]; exact this
  | none =>
    dsimp only
    have hSk : S k = false := by
      cases hk : S k with
      | false => rfl
      | true => obtain ⟨e, he, hp⟩ := (hmem k).mp hk; have := List.findIdx?_eq_none_iff.mp hr e he; rw [hp] at this; exact Bool.noConfusion this
    have hgw : ∀ (b : Bool) {s₁ : Shared} {Q' : Unit → Shared → Prop}, Q' () s₁ → wpAny (model prog w) A (match b with | true => rule "set.scan.the-table-gave-way" | false => pure ()) Q' E s₁ :=
      fun b s₁ Q' hq => by cases b <;> first | exact wpAny_pure hq | exact wpAny_rule hq
    have hperm := layNew_perm t es ((strKind prog w).hash k) (.str k tx)
    have hfits := layNew_fits t es ((strKind prog w).hash k) (.str k tx)
    have hlayl := layNew_led t es ((strKind prog w).hash k) (.str k tx)
    generalize layNew t es ((strKind prog w).hash k) (.str k tx) = L at hperm hfits hlayl ⊢
    obtain ⟨es1, t1, wasDummy, gave⟩ := L
    dsimp only at hperm hfits hlayl ⊢
    rw [Array.toList_push] at hperm
    have hel1 : ElemsOf (strKind prog w) es1.toList := (hel.push hkey hsc).perm hperm
    have hmem1 : ∀ k', (S k' || decide (k' = k)) = true ↔ ∃ e ∈ es1.toList, (strKind prog w).is k' e.2 = true := mem_push_iff hkey hmem hperm
    have hsz1 : es1.size = n + 1 := by rw [← Array.length_toList, hperm.length_eq, List.length_append, Array.length_toList, hn]; rfl
    have hb1' : es1.size < scanBound := by rw [hsz1]; exact hroom
    refine wpAny_bind (hgw _ ?_)
    have hend : ∀ h', Heap.SameBut a s.heap h' → SetL prog w h' a (fun k' => S k' || decide (k' = k)) es1.size → Q true { s with heap := h' } := by
      intro h' hsb hS'; have := h h' hsb; rw [hSk] at this; rw [hsz1] at hS'; exact this hS'
    split
    · refine wpAny_bind ?_
      rw [hashByValue_scannable 8 hsc]
      refine wpAny_pure ?_
      refine SetL_tail ?_ ho hex hd hel1 hmem1 hb1' ?_ ?_ ?_ ?_
      · intro b s₁ Q' hq; cases b <;> first | exact wpAny_pure hq | exact wpAny_rule hq
      · exact SetTable.fits_plain_off hfits
      · exact hlayl.1.trans hled
      · rfl
      · intro h' hsb hS'; dsimp only; exact wpAny_pure (hend h' hsb hS')
    · rename_i hpl1
      refine wpAny_bind (wpAny_pure ?_)
      simp only [↓reduceIte]
      refine SetL_tail ?_ ho hex hd hel1 hmem1 hb1' hfits (hlayl.1.trans hled) (by simpa using hpl1) ?_
      · intro b s₁ Q' hq; cases b <;> first | exact wpAny_pure hq | exact wpAny_rule hq
      · intro h' hsb hS'; dsimp only; exact wpAny_pure (hend h' hsb hS')
end
end Mine

end -- S2
theorem Mine.pad_S3 : Mine.PadG := by first | (walk1; fail "pad") | exact trivial
section -- S3
open PySem PySem.W PySem.Calls PyProof.Rows PySem.Spec
set_option maxRecDepth 100000
set_option maxHeartbeats 3200000
namespace Mine
section
variable {prog : Program} {w : World} {A : Around} {R : Result → Shared → Prop} {I : Addr} {fp wr : List Addr} {G : Array GenState → Array GenState → Prop} {n : Nat} {P : Nat → Value → Prop} {St : Nat → Shared → Prop}
theorem strsL_loop (W : WalksS prog w A.in1 I fp wr G n P St) (S : Addr) (hSf : S ∉ fp) (val : Nat → Str) (hval : ∀ i v, P i v → ∃ t, v = .str (val i) t) (hb : n + 1 < scanBound) :
    ∀ (k i c : Nat) (s : Shared), n - i = k → i ≤ n → c ≤ i → St i s → SetL prog w s.heap S (among val i) c →
      (∀ s' c', Moved (S :: wr) G s s' → c' ≤ n → SetL prog w s'.heap S (among val n) c' → R (.ok (.ret .none)) s') →
      codeAny (model prog w) A (.builtin "set.update.loop" ⟨[.ref S, .ref I], []⟩) R s := by
  have hSw : S ∉ wr := fun h => hSf (W.sub _ h)
  have hsub : ∀ b ∈ wr, b ∈ S :: wr := fun b hb => List.mem_cons_of_mem _ hb
  have move : ∀ {s s' : Shared} {Sf : Str → Bool} {c : Nat}, Moved wr G s s' → SetL prog w s.heap S Sf c → SetL prog w s'.heap S Sf c := by
    rintro s s' Sf c hm ⟨o, es, ep, t, ho, rest⟩
    exact ⟨o, es, ep, t, hm.heap S _ hSw ho, rest⟩
  intro k
  induction k with
  | zero =>
    intro i c s hk hi hc hst hS hR
    obtain rfl : i = n := by omega
    refine codeAny_builtin PyProof.Rows.F.entry_set_update_loop ?_
    rw [Around.under_plainId PyProof.Rows.F.plain_set_update_loop _]
    refine wpAny_bind (W.done s _ _ hst fun s' hm => ?_)
    exact wpAny_pure (hR s' c (hm.mono hsub) hc (move hm hS))
  | succ k ih =>
    intro i c s hk hi hc hst hS hR
    refine codeAny_builtin PyProof.Rows.F.entry_set_update_loop ?_
    rw [Around.under_plainId PyProof.Rows.F.plain_set_update_loop _]
    refine wpAny_bind (W.item i s _ _ (by omega) hst fun v s' hP hst' hm => ?_)
    obtain ⟨t, rfl⟩ := hval i v hP
    have hS1 := move hm hS
    show wpAny _ A.in1 (holding [Value.str (val i) t] (setAdd S (.str (val i) t)) >>= _) _ _ s'
    refine wpAny_bind (wpAny_holding ?_)
    unfold setAdd
    refine wpAny_holding ?_
    refine wpAny_bind ((strKind prog w).pyHash (k := val i) (strKind_is _ _ _ _) ?_)
    refine setL_add (s := { s' with toks := s'.toks + 1 }) hS1 (by omega) fun h' hsb hS2 => ?_
    have hS3 : SetL prog w h' S (among val (i + 1)) _ := (funext (among_succ val i)) ▸ hS2
    refine wpAny_pure ⟨plainId_quiet PyProof.Rows.F.plain_set_update_loop _, ih (i + 1) _ _ (by omega) (by omega) (by split <;> omega) (W.frame _ s' _ _ hst' (Nat.le_succ _) fun b hb o e => ?_) hS3 fun s'' c'' hm'' hc'' hS'' => ?_⟩
    · rw [hsb.2 b (fun h : b = S => hSf (by rw [← h]; exact hb))]; exact e
    · refine hR s'' c'' (Moved.trans W.gtrans ((hm.mono hsub).then_heap (Nat.le_succ _) fun b o hb e => ?_) hm'') hc'' hS''
      rw [hsb.2 b (fun h : b = S => hb (by rw [h]; exact List.mem_cons_self))]; exact e
end
section
variable {prog : Program} {w : World} {A : Around} {E : Value → Shared → Prop} {s : Shared}
theorem setNew_led (a : Value) {Q₁ : Value → Shared → Prop}
    (h : Q₁ (.ref s.heap.objs.size) { s with heap := s.heap.push { cls := .type "set", dict := none, data := .set #[] 0 (.fresh 0 0 (!(w.params.followText "set-order"))) } }) :
    codeAny (model prog w) A (.call (.builtin "set.__new__") ⟨[.type "set", a], []⟩) (wants Q₁ E) s := by
  refine codeAny_of_tree ?_
  show wpAny _ A.in1 (do checkBuiltinCall "set.__new__" ⟨[.type "set", a], []⟩; again (.builtin "set.__new__" ⟨[.type "set", a], []⟩)) _ _ s
  refine wpAny_bind (wpAny_of_eq (F.newCall_set_1 a) (wpAny_pure ⟨plainId_quiet F.plain_set_new _, codeAny_builtin F.entry_set_new ?_⟩))
  rw [Around.under_plainId F.plain_set_new _]
  unfold Builtin.«set.__new__» Builtin.Frozenset.newClass
  have hsub := sub_set_self
  obtain ⟨hp, g, d, tk, os⟩ := s
  dsimp only
  wp_walk
  refine wpAny_askSetting (wpAny_pure ?_)
  dsimp only
  simp only [newObj]
  refine wpAny_bind (wpAny_alloc (wpAny_pure ?_))
  exact wpAny_pure h
/-- set(l) of a list of texts -/
theorem setL_strs {l : Addr} {items : Array Value} {val : Nat → Str} {Q : Value → Shared → Prop} (hh : A.handled = none) (hl : s.heap.IsList l items) (hi : ∀ (i : Nat) v, items[i]? = some v → ∃ t, v = .str (val i) t) (hb : items.size + 1 < scanBound)
    (h : ∀ (h' : Heap) (tk c : Nat), c ≤ items.size → SetL prog w h' s.heap.objs.size (among val items.size) c → (∀ b o, s.heap.get? b = some o → h'.get? b = some o) → Q (.ref s.heap.objs.size) { s with heap := h', toks := tk }) :
    wpAny (model prog w) A (call (.type "set") [.ref l]) Q E s := by
  obtain ⟨c, tl, hmro⟩ := F.called_set.mro
  have hmade := F.called_set.made
  have hsub := F.called_set.sub
  refine wpAny_call (codeAny_of_tree ?_)
  show wpAny _ _ (callAny (.type "set") _) _ _ _
  refine wpAny_pure ⟨Code.quiet_builtin _ (by decide +kernel), codeAny_builtin F.entry_type_call ?_⟩
  rw [Around.under_plain (weight_type_call_type "set" [.ref l] []) rfl]
  have h1 := F.called_set.notType
  have h2 := F.called_set.canCreate
  have hct := F.typeCall_set_1 (.ref l)
  repeat (any_goals (first | assumption | wp_step))
  refine codeAny_mono (setNew_led (.ref l) (E := E) (Q₁ := fun obj s₁ => ∃ led : Bool, led = !(w.params.followText "set-order") ∧ obj = .ref s.heap.objs.size ∧ s₁ = { s with heap := s.heap.push { cls := .type "set", dict := none, data := .set #[] 0 (.fresh 0 0 led) } }) ⟨_, rfl, rfl, rfl⟩) fun r s₁ hr => ?_
  match r, hr with
  | .error e, hr => exact hr
  | .ok .next, hr => exact hr.elim
  | .ok .brk, hr => exact hr.elim
  | .ok .cont, hr => exact hr.elim
  | .ok (.ret obj), ⟨led, hled, e1, e2⟩ =>
    subst e1 e2
    generalize hO : ({ cls := .type "set", dict := none, data := .set #[] 0 (.fresh 0 0 led) } : Obj) = O
    have hOf : O.isFreed = false := by rw [← hO]; rfl
    have hS : (s.heap.push O).get? s.heap.objs.size = some O := Heap.get?_push_size _ hOf
    have hT : Shared.TypeIs { s with heap := s.heap.push O } (.ref s.heap.objs.size) "set" := ⟨_, hS, by rw [← hO]⟩
    have hli := F.called_set.init.lookup
    have hbi := F.called_set.init.bind (.ref s.heap.objs.size)
    repeat (any_goals (first | assumption | wp_step))
    refine codeAny_mono (codeAny_call_builtin (R := wants (fun r s₂ => r = .none ∧ ∃ h' tk c, s₂ = { s with heap := h', toks := tk } ∧ c ≤ items.size ∧ SetL prog w h' s.heap.objs.size (among val items.size) c ∧
        (∀ b o, s.heap.get? b = some o → h'.get? b = some o)) E) F.called_set.init.plain F.entry_set_init (check_set_init_1 hT ?_)) fun r₂ s₂ hr₂ => ?_
    · subst hO
      obtain ⟨⟨ocls, odict, odata, oslots⟩, hol, hcl, nl, hdl⟩ := id hl
      simp only at hcl hdl
      subst hcl; subst hdl
      have hol' : (s.heap.push { cls := .type "set", dict := none, data := .set #[] 0 (.fresh 0 0 led) }).get? l = some { cls := .type "list", dict := odict, data := .seq items nl, slots := oslots } := Heap.get?_push_of_some _ hol
      have hsls := F.sub_list_set
      have hslf := F.sub_list_frozenset
      have hne : (Value.type "list" == Value.type "dict") = false := by decide
      have hl1 : (s.heap.push { cls := .type "set", dict := none, data := .set #[] 0 (.fresh 0 0 led) }).IsList l items := ⟨_, hol', rfl, nl, rfl⟩
      unfold Builtin.«set.__init__» noKeywords Builtin.Frozenset.updateFrom
      generalize hPI : pyIter = PI
      wp_walk
      subst hPI
      refine wpAny_pyIter_list hl1 ?_
      refine wpAny_bind (wpAny_runValue ?_)
      have hlS : l < s.heap.objs.size := Heap.lt_size hol
      have psz : (s.heap.push { cls := .type "set", dict := none, data := .set #[] 0 (.fresh 0 0 led) }).objs.size = s.heap.objs.size + 1 := Heap.size_push _ _
      have hh3 : A.in1.in1.in1.handled = none := by simp [hh]
      refine strsL_loop ((Walks.list hh3 _ l (by rw [psz]; exact Nat.ne_of_lt (Nat.lt_succ_of_lt hlS)) items).toS) s.heap.objs.size ?hSf val (fun i v hv => hi i v hv) hb (items.size - 0) 0 0 _ (by omega) (Nat.zero_le _) (Nat.le_refl _) ⟨⟨_, Heap.get?_push_size _ rfl, rfl, rfl⟩, (hl1.push _)⟩ ?hS0 ?hR
      case hSf =>
        rw [psz]
        simp only [List.mem_cons, List.not_mem_nil, or_false, not_or]
        exact ⟨Nat.ne_of_lt (Nat.lt_succ_self _), Nat.ne_of_gt hlS⟩
      case hS0 =>
        exact ⟨_, #[], 0, _, Heap.get?_push_of_some _ hS, ⟨rfl, rfl, rfl⟩, rfl, (fun e he => by simp at he), (fun k => by simp [among]), (by decide), rfl, rfl, hled, fun h0 => absurd h0 (by simp)⟩
      case hR =>
        intro s' c' hm hc' hS'
        obtain ⟨h', g', d', tk', os'⟩ := s'
        have eg : g' = s.gens := hm.gens
        have ed : d' = s.drawn := hm.drawn
        have eo : os' = s.os := hm.os
        subst eg; subst ed; subst eo
        refine wpAny_pure ?_
        refine wpAny_pure ⟨rfl, h', tk', c', rfl, hc', hS', fun b o e => ?_⟩
        have hlt := Heap.lt_size e
        refine hm.heap b o ?_ (Heap.get?_push_of_some _ (Heap.get?_push_of_some _ e))
        rw [psz]
        simp only [List.mem_cons, List.not_mem_nil, or_false, not_or]
        exact ⟨Nat.ne_of_lt hlt, Nat.ne_of_lt (Nat.lt_succ_of_lt hlt)⟩
    · match r₂, hr₂ with
      | .error e, hr₂ => exact hr₂
      | .ok .next, hr₂ => exact hr₂.elim
      | .ok .brk, hr₂ => exact hr₂.elim
      | .ok .cont, hr₂ => exact hr₂.elim
      | .ok (.ret r), ⟨e1, h', tk, c', e2, hc', hS', hk'⟩ =>
        subst e1 e2
        repeat (any_goals (first | assumption | wp_step))
        exact h _ _ _ hc' hS' hk'
end
end Mine

end -- S3
theorem Mine.pad_S4a : Mine.PadG := by first | (walk1; fail "pad") | exact trivial
section -- S4a
open PySem PySem.W PySem.Calls PyProof.Rows PySem.Spec
set_option maxRecDepth 100000
set_option maxHeartbeats 800000
namespace Mine
theorem owner_si : Manifest.owners.lookup (String.ofList ['r', 'o', 't', 'a', 'r', 'e', 't', 'i', '_', 't', 'e', 's'].reverse) = some Manifest.sig_set_iterator := by kernel_rfl
theorem slot_si_next : Slot "set_iterator" "__next__" "set_iterator.__next__" :=
  .of (owner := "set_iterator") (n := "__next__") (by rw [typeLookup_type, builtinLookup_eq_fast]; kernel_rfl) (by decide +kernel) (by decide +kernel) (by decide +kernel)
    (by first | exact .inl (by decide +kernel) | exact .inr (by decide +kernel)) (by rw [isSubtype_type]; kernel_rfl)
theorem entry_si_next : entryFor table "set_iterator.__next__" = some Builtin.«set_iterator.__next__» := entryFor_of_tree (by kernel_rfl)
theorem args_si_next (a : Value) : argsOk "set_iterator.__next__" ⟨[a], []⟩ := by
  unfold argsOk; rw [signature?_of (id := "set_iterator.__next__") (n := ['_', '_', 't', 'x', 'e', 'n', '_', '_']) (o := ['r', 'o', 't', 'a', 'r', 'e', 't', 'i', '_', 't', 'e', 's']) (by kernel_rfl) owner_si]; kernel_rfl
theorem slot_si_iter : Slot "set_iterator" "__iter__" "set_iterator.__iter__" :=
  .of (owner := "set_iterator") (n := "__iter__") (by rw [typeLookup_type, builtinLookup_eq_fast]; kernel_rfl) (by decide +kernel) (by decide +kernel) (by decide +kernel)
    (by first | exact .inl (by decide +kernel) | exact .inr (by decide +kernel)) (by rw [isSubtype_type]; kernel_rfl)
theorem args_si_iter (a : Value) : argsOk "set_iterator.__iter__" ⟨[a], []⟩ := by
  unfold argsOk; rw [signature?_of (id := "set_iterator.__iter__") (n := ['_', '_', 'r', 'e', 't', 'i', '_', '_']) (o := ['r', 'o', 't', 'a', 'r', 'e', 't', 'i', '_', 't', 'e', 's']) (by kernel_rfl) owner_si]; kernel_rfl
theorem entry_si_iter : entryFor table "set_iterator.__iter__" = some Builtin.«dict_keyiterator.__iter__» :=
  entryFor_alias (id' := "dict_keyiterator.__iter__") (by kernel_rfl) (by first | rfl | decide +kernel) (by decide +kernel) (by kernel_rfl)
theorem entry_set_iter : entryFor table "set.__iter__" = some Builtin.«frozenset.__iter__» :=
  entryFor_alias (id' := "frozenset.__iter__") (by kernel_rfl) rfl (by decide +kernel) (by kernel_rfl)
theorem erase_perm {α : Type} : ∀ (l : List α) (i : Nat) (h : i < l.length), (l[i] :: l.eraseIdx i).Perm l
  | x :: l, 0, _ => .refl _
  | x :: l, i + 1, h => by
    have ih := erase_perm l i (by simpa using h)
    exact (List.Perm.swap _ _ _).trans (List.Perm.cons x ih)
end Mine

end -- S4a
theorem Mine.pad_S4 : Mine.PadG := by first | (walk1; fail "pad") | exact trivial
section -- S4
open PySem PySem.W PySem.Calls PyProof.Rows PySem.Spec
set_option maxRecDepth 100000
set_option maxHeartbeats 800000
namespace Mine
section
variable {M : Model} {A : Around} {E : Value → Shared → Prop}
theorem wpAny_chooseAny {s : Shared} {src : Source} {n : Nat} {Q : Nat → Shared → Prop} (hn : n ≠ 0) (h : ∀ i, i < n → Q i { s with drawn := s.drawn.bump src }) : wpAny M A (choose src n) Q E s :=
  fun _ _ _ => ⟨hn, h _ (Nat.mod_lt _ (Nat.pos_of_ne_zero hn))⟩
theorem wpAny_drawOrder {α : Type} : ∀ (n : Nat) (xs : List α) (s : Shared) (Q : List α → Shared → Prop), xs.length = n → (∀ ys d, ys.Perm xs → Q ys { s with drawn := d }) → wpAny M A (drawOrder n xs) Q E s := by
  intro n
  induction n with
  | zero =>
    intro xs s Q hl h
    have : xs = [] := List.length_eq_zero_iff.mp hl
    subst this
    unfold drawOrder
    exact wpAny_pure (h [] s.drawn (.refl _))
  | succ n ih =>
    intro xs s Q hl h
    cases xs with
    | nil => simp at hl
    | cons x xs =>
      unfold drawOrder
      refine wpAny_bind (wpAny_chooseAny (by simp) fun i hi => ?_)
      rw [List.getElem?_eq_getElem hi]
      dsimp only
      refine wpAny_bind (ih _ _ _ ?_ fun ys d hp => wpAny_pure (h _ d ?_))
      · rw [List.length_eraseIdx, if_pos hi]; simp at hl ⊢; exact hl
      · exact (List.Perm.cons _ hp).trans (erase_perm _ _ hi)
theorem pick_go {α : Type} (next : Nat → Nat) : ∀ (fuel k : Nat) (left : List α) (out : Array α), left.length = fuel → ((pickOrder.go next fuel k left out).toList).Perm (out.toList ++ left) := by
  intro fuel
  induction fuel with
  | zero =>
    intro k left out hl
    have : left = [] := List.length_eq_zero_iff.mp hl
    subst this
    unfold pickOrder.go
    simp
  | succ n ih =>
    intro k left out hl
    have hi : next k % left.length < left.length := Nat.mod_lt _ (by omega)
    unfold pickOrder.go
    rw [List.getElem?_eq_getElem hi]
    dsimp only
    refine (ih _ _ _ (by rw [List.length_eraseIdx, if_pos hi]; omega)).trans ?_
    rw [Array.toList_push, List.append_assoc]
    exact List.Perm.append_left _ (erase_perm _ _ hi)
theorem pick_perm {α : Type} (next : Nat → Nat) (xs : Array α) : ((pickOrder next xs).toList).Perm xs.toList := by
  unfold pickOrder
  simpa using pick_go next xs.size 0 xs.toList #[] (by simp)
end
/-- the iterator of a set -/
noncomputable def SetIt (h : Heap) (I S : Addr) (first : Value) (i n ep : Nat) : Prop := ∃ o, h.get? I = some o ∧ o.cls = .type "set_iterator" ∧ o.data = .fields #[first, .int i 0, .ref S, .int n 0, .int ep 0]
noncomputable def SetIs (h : Heap) (S : Addr) (es : Array (Int × Value)) (ep : Nat) (t : SetTable) : Prop := ∃ o, h.get? S = some o ∧ o.ExactSet ∧ o.data = .set es ep t ∧ t.fits es.size = true
theorem SetIt.typeIs {s : Shared} {I S : Addr} {f : Value} {i n ep : Nat} (x : SetIt s.heap I S f i n ep) : s.TypeIs (.ref I) "set_iterator" := let ⟨o, ho, hc, _⟩ := x; ⟨o, ho, hc⟩
theorem SetIt.at {h h' : Heap} {I S : Addr} {f : Value} {i n ep : Nat} (x : SetIt h I S f i n ep) (e : ∀ o, h.get? I = some o → h'.get? I = some o) : SetIt h' I S f i n ep := let ⟨o, ho, r⟩ := x; ⟨o, e _ ho, r⟩
theorem SetIs.at {h h' : Heap} {S : Addr} {es : Array (Int × Value)} {ep : Nat} {t : SetTable} (x : SetIs h S es ep t) (e : ∀ o, h.get? S = some o → h'.get? S = some o) : SetIs h' S es ep t := let ⟨o, ho, r⟩ := x; ⟨o, e _ ho, r⟩
section
variable {prog : Program} {w : World} {A : Around} {E : Value → Shared → Prop} {s : Shared} {I S : Addr} {es : Array (Int × Value)} {ep i : Nat} {t : SetTable}
theorem next_item {slot nx : Nat} {x : Value} {Q : Option Value → Shared → Prop} (hit : SetIt s.heap I S (.int slot 0) i es.size ep) (hS : SetIs s.heap S es ep t)
    (hn : ∀ (B : Around) (Q' : Option (Value × Nat) → Shared → Prop) (E' : Value → Shared → Prop), Q' (some (x, nx)) s → wpAny (model prog w) B (setNext S slot i ep) Q' E' s)
    (hQ : ∀ h', SetIt h' I S (.int nx 0) (i + 1) es.size ep → Heap.SameBut I s.heap h' → Q (some x) { s with heap := h' }) : wpAny (model prog w) A (pyNext (.ref I)) Q E s := by
  obtain ⟨o, ho, hc, hd⟩ := id hit
  obtain ⟨os, hos, hex, hds, hf⟩ := hS
  unfold pyNext
  refine wpAny_bind (wpAny_attempt (wpAny_callSpecial?_slot (name := Str.ofString "__next__") hit.typeIs slot_si_next
    (wpAny_call_entry slot_si_next hit.typeIs entry_si_next ?_ (args_si_next _))))
  unfold Builtin.«set_iterator.__next__»
  refine wpAny_bind (wpAny_of_eq (a := (Value.ref I, [])) rfl ?_)
  try dsimp only
  refine wpAny_bind (wpAny_fieldsOf ho hd ?_)
  try dsimp only
  refine wpAny_bind (wpAny_setEntries_of hos hds hf ?_)
  rw [if_neg (by simp)]
  simp only [Int.toNat_natCast]
  refine wpAny_bind (hn _ _ _ ?_)
  dsimp only
  refine wpAny_bind (wpAny_setField ho hd (by simp) ?_)
  have ho1 := Heap.get?_update_self (Obj.mapFields (·.setIfInBounds 0 (rawInt (nx : Int)))) ho (Obj.isFreed_of_fields (Obj.data_mapFields hd _))
  have hd1 := Obj.data_mapFields hd (·.setIfInBounds 0 (rawInt (nx : Int)))
  refine wpAny_bind (wpAny_setField ho1 hd1 (by simp) (wpAny_pure ⟨x, rfl, wpAny_pure (hQ _ ?_ ((Heap.SameBut.update ..).trans (Heap.SameBut.update ..)))⟩))
  exact ⟨_, Heap.get?_update_self _ ho1 (Obj.isFreed_of_fields (Obj.data_mapFields hd1 _)), ((Obj.cls_mapFields ..).trans (Obj.cls_mapFields ..)).trans hc, by
    rw [Obj.data_mapFields hd1]; simp [rawInt]⟩
theorem next_end {slot : Nat} {Q : Option Value → Shared → Prop} (hh : A.handled = none) (hit : SetIt s.heap I S (.int slot 0) i es.size ep) (hS : SetIs s.heap S es ep t)
    (hn : ∀ (B : Around) (Q' : Option (Value × Nat) → Shared → Prop) (E' : Value → Shared → Prop), Q' none s → wpAny (model prog w) B (setNext S slot i ep) Q' E' s)
    (hQ : ∀ h', Heap.ExtBut I s.heap h' → Q none { s with heap := h' }) : wpAny (model prog w) A (pyNext (.ref I)) Q E s := by
  obtain ⟨o, ho, hc, hd⟩ := id hit
  obtain ⟨os, hos, hex, hds, hf⟩ := hS
  unfold pyNext
  refine wpAny_bind (wpAny_attempt (wpAny_callSpecial?_slot (name := Str.ofString "__next__") hit.typeIs slot_si_next
    (wpAny_call_entry slot_si_next hit.typeIs entry_si_next ?_ (args_si_next _))))
  unfold Builtin.«set_iterator.__next__»
  refine wpAny_bind (wpAny_of_eq (a := (Value.ref I, [])) rfl ?_)
  try dsimp only
  refine wpAny_bind (wpAny_fieldsOf ho hd ?_)
  try dsimp only
  refine wpAny_bind (wpAny_setEntries_of hos hds hf ?_)
  rw [if_neg (by simp)]
  simp only [Int.toNat_natCast]
  refine wpAny_bind (hn _ _ _ ?_)
  dsimp only
  refine wpAny_bind (wpAny_setField ho hd (by simp) ?_)
  show wpAny _ _ (newExc (.type "StopIteration") [] >>= _) _ _ _
  refine wpAny_bind ?_
  simp only [newExc, newTuple]
  refine wpAny_bind (wpAny_newObj_type ?_ (by size_fits))
  refine wpAny_bind (m := firstArgMember _ _) (wpAny_of_eq (a := Value.none) (by first | rfl | (simp only [firstArgMember]; rfl)) ?_)
  refine wpAny_newObj_type ?_ (by size_fits)
  simp only [raiseNew]
  refine wpAny_bind (wpAny_handled ?_)
  rw [show A.in1.handled = none from hh]
  refine wpAny_bind (wpAny_pure (wpAny_throw ?_))
  refine wpAny_bind (wpAny_isInstance (T := "StopIteration") (b := true) ⟨_, Heap.get?_push_size _ rfl, rfl⟩ isSubtype_stop ?_)
  exact wpAny_pure (hQ _ (((Heap.SameBut.update ..).extBut.push _).push _))
/-- a drawn order -/
theorem nextD_item {T : Addr} {pl : List Nat} {p : Nat} {x : Int × Value} {Q : Option Value → Shared → Prop} (hit : SetIt s.heap I S (.ref T) i es.size ep) (hS : SetIs s.heap S es ep t)
    (hT : s.heap.IsTuple T (pl.map fun (j : Nat) => rawInt j).toArray) (hp : pl[i]? = some p) (hx : es[p]? = some x)
    (hQ : ∀ h', SetIt h' I S (.ref T) (i + 1) es.size ep → Heap.SameBut I s.heap h' → Q (some x.2) { s with heap := h' }) : wpAny (model prog w) A (pyNext (.ref I)) Q E s := by
  obtain ⟨o, ho, hc, hd⟩ := id hit
  obtain ⟨os, hos, hex, hds, hf⟩ := hS
  obtain ⟨ot, hot, _, nt, hdt⟩ := hT
  unfold pyNext
  refine wpAny_bind (wpAny_attempt (wpAny_callSpecial?_slot (name := Str.ofString "__next__") hit.typeIs slot_si_next
    (wpAny_call_entry slot_si_next hit.typeIs entry_si_next ?_ (args_si_next _))))
  unfold Builtin.«set_iterator.__next__»
  refine wpAny_bind (wpAny_of_eq (a := (Value.ref I, [])) rfl ?_)
  try dsimp only
  refine wpAny_bind (wpAny_fieldsOf ho hd ?_)
  try dsimp only
  refine wpAny_bind (wpAny_setEntries_of hos hds hf ?_)
  rw [if_neg (by simp)]
  simp only [Int.toNat_natCast]
  refine wpAny_bind (wpAny_seqItems hot hdt ?_)
  have e1 : (pl.map fun (j : Nat) => rawInt j).toArray[i]? = some (rawInt p) := by simp [hp]
  dsimp only
  rw [e1]
  dsimp only [rawInt]
  simp only [Int.toNat_natCast]
  refine wpAny_bind ?_
  unfold setNextDrawn
  refine wpAny_bind (wpAny_setState_of hos hds hf ?_)
  dsimp only
  rw [if_neg (by simp)]
  rw [hx]
  refine wpAny_pure ?_
  refine wpAny_bind (wpAny_setField ho hd (by simp) (wpAny_pure ⟨x.2, rfl, wpAny_pure (hQ _ ?_ (Heap.SameBut.update ..))⟩))
  exact ⟨_, Heap.get?_update_self _ ho (Obj.isFreed_of_fields (Obj.data_mapFields hd _)), (Obj.cls_mapFields ..).trans hc, by
    rw [Obj.data_mapFields hd]; simp [rawInt]⟩
theorem nextD_end {T : Addr} {pl : List Nat} {Q : Option Value → Shared → Prop} (hh : A.handled = none) (hit : SetIt s.heap I S (.ref T) i es.size ep) (hS : SetIs s.heap S es ep t)
    (hT : s.heap.IsTuple T (pl.map fun (j : Nat) => rawInt j).toArray) (hp : pl[i]? = none)
    (hQ : ∀ h', Heap.ExtBut I s.heap h' → Q none { s with heap := h' }) : wpAny (model prog w) A (pyNext (.ref I)) Q E s := by
  obtain ⟨o, ho, hc, hd⟩ := id hit
  obtain ⟨os, hos, hex, hds, hf⟩ := hS
  obtain ⟨ot, hot, _, nt, hdt⟩ := hT
  unfold pyNext
  refine wpAny_bind (wpAny_attempt (wpAny_callSpecial?_slot (name := Str.ofString "__next__") hit.typeIs slot_si_next
    (wpAny_call_entry slot_si_next hit.typeIs entry_si_next ?_ (args_si_next _))))
  unfold Builtin.«set_iterator.__next__»
  refine wpAny_bind (wpAny_of_eq (a := (Value.ref I, [])) rfl ?_)
  try dsimp only
  refine wpAny_bind (wpAny_fieldsOf ho hd ?_)
  try dsimp only
  refine wpAny_bind (wpAny_setEntries_of hos hds hf ?_)
  rw [if_neg (by simp)]
  simp only [Int.toNat_natCast]
  refine wpAny_bind (wpAny_seqItems hot hdt ?_)
  have e1 : (pl.map fun (j : Nat) => rawInt j).toArray[i]? = none := by simpa using hp
  dsimp only
  rw [e1]
  dsimp only
  refine wpAny_bind (wpAny_setField ho hd (by simp) ?_)
  have ho1 := Heap.get?_update_self (Obj.mapFields (·.setIfInBounds 0 (rawInt (0 : Int)))) ho (Obj.isFreed_of_fields (Obj.data_mapFields hd _))
  have hd1 := Obj.data_mapFields hd (·.setIfInBounds 0 (rawInt (0 : Int)))
  refine wpAny_bind (wpAny_setField ho1 hd1 (by simp) ?_)
  show wpAny _ _ (newExc (.type "StopIteration") [] >>= _) _ _ _
  refine wpAny_bind ?_
  simp only [newExc, newTuple]
  refine wpAny_bind (wpAny_newObj_type ?_ (by size_fits))
  refine wpAny_bind (m := firstArgMember _ _) (wpAny_of_eq (a := Value.none) (by first | rfl | (simp only [firstArgMember]; rfl)) ?_)
  refine wpAny_newObj_type ?_ (by size_fits)
  simp only [raiseNew]
  refine wpAny_bind (wpAny_handled ?_)
  rw [show A.in1.handled = none from hh]
  refine wpAny_bind (wpAny_pure (wpAny_throw ?_))
  refine wpAny_bind (wpAny_isInstance (T := "StopIteration") (b := true) ⟨_, Heap.get?_push_size _ rfl, rfl⟩ isSubtype_stop ?_)
  exact wpAny_pure (hQ _ ((((Heap.SameBut.update ..).trans (Heap.SameBut.update ..)).extBut.push _).push _))
theorem iter_self {f : Value} {n : Nat} {Q : Value → Shared → Prop} (hit : SetIt s.heap I S f i n ep) (h : Q (.ref I) s) : wpAny (model prog w) A (pyIter (.ref I)) Q E s := by
  refine wpAny_pyIter_slot hit.typeIs slot_si_iter (wpAny_call_entry slot_si_iter hit.typeIs entry_si_iter ?_ (args_si_iter _))
  show wpAny _ _ (ret (.ref I)) _ _ s
  exact wpAny_pure ⟨_, rfl, "set_iterator", _, hit.typeIs, slot_si_next.lookup, h⟩
theorem next_text (hS : SetIs s.heap S es ep t) (hb : w.params.followText "set-order" = true) (slot : Nat) (B : Around) (Q' : Option (Value × Nat) → Shared → Prop) (E' : Value → Shared → Prop)
    (h : Q' (((pickOrder (w.params.setOrder S ep) es)[i]?).map fun e => (e.2, slot)) s) : wpAny (model prog w) B (setNext S slot i ep) Q' E' s := by
  obtain ⟨os, hos, hex, hds, hf⟩ := hS
  unfold setNext
  refine wpAny_bind (wpAny_setState_of hos hds hf ?_)
  dsimp only
  unfold setsByText
  refine wpAny_bind (wpAny_bind (wpAny_askSetting (wpAny_pure ?_)))
  dsimp only
  rw [show (model prog w).w = w from rfl, hb, if_pos rfl, if_neg (by simp)]
  refine wpAny_bind ?_
  unfold setWalk setsByText
  refine wpAny_bind (wpAny_setState_of hos hds hf ?_)
  dsimp only
  refine wpAny_bind (wpAny_bind (wpAny_askSetting (wpAny_pure ?_)))
  dsimp only
  rw [show (model prog w).w = w from rfl, hb, if_pos rfl]
  refine wpAny_bind (wpAny_askSetting (wpAny_pure ?_))
  exact wpAny_pure h
theorem next_one (hS : SetIs s.heap S es ep t) (hb : w.params.followText "set-order" = false) (hled : t.led = true) (hone : es.size ≤ 1) (slot : Nat) (B : Around) (Q' : Option (Value × Nat) → Shared → Prop) (E' : Value → Shared → Prop)
    (h : Q' (match es[SetTable.below t.place slot]?, t.place[SetTable.below t.place slot]? with | some (_, x), some j => some (x, j + 1) | _, _ => none) s) : wpAny (model prog w) B (setNext S slot i ep) Q' E' s := by
  obtain ⟨os, hos, hex, hds, hf⟩ := hS
  unfold setNext
  refine wpAny_bind (wpAny_setState_of hos hds hf ?_)
  dsimp only
  unfold setsByText
  refine wpAny_bind (wpAny_bind (wpAny_askSetting (wpAny_pure ?_)))
  dsimp only
  rw [show (model prog w).w = w from rfl, hb, if_neg (by simp)]
  show wpAny _ _ (if (!t.plain && decide (es.size > 1)) = true then _ else _) _ _ _
  rw [if_neg (by simp; omega)]
  refine wpAny_bind ?_
  show wpAny _ _ (if (!t.led && !es.isEmpty) = true then _ else pure ()) _ _ _
  rw [if_neg (by simp [hled])]
  exact wpAny_pure (wpAny_pure h)
/-- what the order of a set's walk is worth -/
noncomputable def Order (es : Array (Int × Value)) (ord : List Value) : Prop := ord.Perm (es.toList.map (·.2))
theorem walks_text (hh : A.handled = none) (hne : S ≠ I) (hb : w.params.followText "set-order" = true) (es : Array (Int × Value)) (ep : Nat) (t : SetTable) :
    Walks prog w A I [I, S] [I] es.size (fun i v => ((pickOrder (w.params.setOrder S ep) es).toList.map (·.2))[i]? = some v) (fun i h => SetIt h I S (.int 0 0) i es.size ep ∧ SetIs h S es ep t) where
  sub := fun b hb => by simp at hb; simp [hb]
  frame := fun _ _ _ st hk => ⟨st.1.at fun o e => hk I (by simp) o e, st.2.at fun o e => hk S (by simp) o e⟩
  item := fun i s Q E hi st hQ => by
    have hsz : (pickOrder (w.params.setOrder S ep) es).size = es.size := by have := (pick_perm (w.params.setOrder S ep) es).length_eq; simpa using this
    have hx : (pickOrder (w.params.setOrder S ep) es)[i]? = some (pickOrder (w.params.setOrder S ep) es)[i] := Array.getElem?_eq_getElem (by omega)
    refine next_item (slot := 0) (nx := 0) (x := (pickOrder (w.params.setOrder S ep) es)[i].2) st.1 st.2 (fun B Q' E' h => next_text st.2 hb 0 B Q' E' (by rw [hx]; exact h)) fun h' hit' hs' => ?_
    exact hQ _ h' s.toks (by simp [hx]) ⟨hit', st.2.at fun o e => (hs'.2 S hne).trans e⟩ fun b o hb e => hs'.extBut b o (fun h => hb (by simp [h])) e
  done := fun s Q E st hQ => by
    have hsz : (pickOrder (w.params.setOrder S ep) es).size = es.size := by have := (pick_perm (w.params.setOrder S ep) es).length_eq; simpa using this
    have hx : (pickOrder (w.params.setOrder S ep) es)[es.size]? = none := Array.getElem?_eq_none (by omega)
    refine next_end (slot := 0) hh st.1 st.2 (fun B Q' E' h => next_text st.2 hb 0 B Q' E' (by rw [hx]; exact h)) fun h' he' => ?_
    exact hQ h' s.toks fun b o hb e => he' b o (fun h => hb (by simp [h])) e
  self := fun _ _ _ _ st hQ => iter_self st.1 hQ
theorem walks_one (hh : A.handled = none) (hne : S ≠ I) (hb : w.params.followText "set-order" = false) (es : Array (Int × Value)) (ep : Nat) (t : SetTable) (hled : t.led = true) (hone : es.size ≤ 1) :
    Walks prog w A I [I, S] [I] es.size (fun i v => (es.toList.map (·.2))[i]? = some v) (fun i h => SetIt h I S (.int (if i = 0 then 0 else t.place.getD 0 0 + 1 : Nat) 0) i es.size ep ∧ SetIs h S es ep t) where
  sub := fun b hb => by simp at hb; simp [hb]
  frame := fun _ _ _ st hk => ⟨st.1.at fun o e => hk I (by simp) o e, st.2.at fun o e => hk S (by simp) o e⟩
  item := fun i s Q E hi st hQ => by
    have hi0 : i = 0 := by omega
    have hs1 : es.size = 1 := by omega
    subst hi0
    obtain ⟨os, hos, hex, hds, hf⟩ := id st.2
    have hp1 : t.place.size = 1 := by simp only [SetTable.fits, Bool.and_eq_true, beq_iff_eq] at hf; omega
    have hx : es[0]? = some es[0] := Array.getElem?_eq_getElem (by omega)
    have hj : t.place[0]? = some (t.place.getD 0 0) := by simp [Array.getD, hp1]
    have hbl : SetTable.below t.place 0 = 0 := by simp [SetTable.below, SetTable.below.go, hp1]
    refine next_item (slot := 0) (nx := t.place.getD 0 0 + 1) (x := es[0].2) st.1 st.2 (fun B Q' E' h => next_one st.2 hb hled hone 0 B Q' E' (by rw [hbl, hx, hj]; exact h)) fun h' hit' hs' => ?_
    exact hQ _ h' s.toks (by simp [hx]) ⟨hit', st.2.at fun o e => (hs'.2 S hne).trans e⟩ fun b o hb e => hs'.extBut b o (fun h => hb (by simp [h])) e
  done := fun s Q E st hQ => by
    obtain ⟨os, hos, hex, hds, hf⟩ := id st.2
    have hps : t.place.size = es.size := by simp only [SetTable.fits, Bool.and_eq_true, beq_iff_eq] at hf; omega
    have hbl : SetTable.below t.place (if es.size = 0 then 0 else t.place.getD 0 0 + 1) = es.size := by
      by_cases h0 : es.size = 0
      · simp [SetTable.below, SetTable.below.go, hps, h0]
      · have h1 : es.size = 1 := by omega
        have hp1 : t.place.size = 1 := by omega
        simp [SetTable.below, SetTable.below.go, hp1, h1, Array.getD]
    have hx : es[es.size]? = none := Array.getElem?_eq_none (by omega)
    refine next_end (slot := if es.size = 0 then 0 else t.place.getD 0 0 + 1) hh st.1 st.2 (fun B Q' E' h => next_one st.2 hb hled hone _ B Q' E' (by rw [hbl, hx]; exact h)) fun h' he' => ?_
    exact hQ h' s.toks fun b o hb e => he' b o (fun h => hb (by simp [h])) e
  self := fun _ _ _ _ st hQ => iter_self st.1 hQ
theorem walks_drawn {T : Addr} {pl : List Nat} (hh : A.handled = none) (hne : S ≠ I) (hTI : T ≠ I) (es : Array (Int × Value)) (ep : Nat) (t : SetTable) (hpl : pl.Perm (List.range es.size)) :
    Walks prog w A I [I, T, S] [I, T] es.size (fun i v => ((pl.map fun p => (es.getD p (0, .none)).2))[i]? = some v) (fun i h => SetIt h I S (.ref T) i es.size ep ∧ SetIs h S es ep t ∧ h.IsTuple T (pl.map fun (j : Nat) => rawInt j).toArray) where
  sub := fun b hb => by simp at hb; rcases hb with hb | hb <;> simp [hb]
  frame := fun _ _ _ st hk => ⟨st.1.at fun o e => hk I (by simp) o e, st.2.1.at fun o e => hk S (by simp) o e, let ⟨o, ho, r⟩ := st.2.2; ⟨o, hk T (by simp) o ho, r⟩⟩
  item := fun i s Q E hi st hQ => by
    have hl : pl.length = es.size := by simpa using hpl.length_eq
    have hp : pl[i]? = some pl[i] := List.getElem?_eq_getElem (by omega)
    have hr : pl[i] < es.size := by have := hpl.mem_iff.mp (List.getElem_mem (l := pl) (n := i) (by omega)); simpa using this
    have hx : es[pl[i]]? = some es[pl[i]] := Array.getElem?_eq_getElem hr
    refine nextD_item (x := es[pl[i]]) st.1 st.2.1 st.2.2 hp hx fun h' hit' hs' => ?_
    exact hQ _ h' s.toks (by simp [hp, Array.getD, hr]) ⟨hit', st.2.1.at fun o e => (hs'.2 S hne).trans e, let ⟨o, ho, r⟩ := st.2.2; ⟨o, (hs'.2 T hTI).trans ho, r⟩⟩ fun b o hb e => hs'.extBut b o (fun h => hb (by simp [h])) e
  done := fun s Q E st hQ => by
    have hl : pl.length = es.size := by simpa using hpl.length_eq
    refine nextD_end hh st.1 st.2.1 st.2.2 (List.getElem?_eq_none (by omega)) fun h' he' => ?_
    exact hQ h' s.toks fun b o hb e => he' b o (fun h => hb (by simp [h])) e
  self := fun _ _ _ _ st hQ => iter_self st.1 hQ
end
end Mine

end -- S4
theorem Mine.pad_S5 : Mine.PadG := by first | (walk1; fail "pad") | exact trivial
section -- S5
open PySem PySem.W PySem.Calls PyProof.Rows PySem.Spec
set_option maxRecDepth 100000
set_option maxHeartbeats 800000
namespace Mine
/-- the same but for the draws -/
noncomputable def Redrawn (s s' : Shared) : Prop := ∃ d, s' = { s with drawn := d }
theorem Redrawn.rfl {s : Shared} : Redrawn s s := ⟨s.drawn, by cases s; rfl⟩
section
variable {prog : Program} {w : World} {A : Around} {E : Value → Shared → Prop} {s : Shared} {S : Addr}
theorem iter_setL {M : Str → Bool} {n : Nat} {Q : Value → Shared → Prop} (hh : A.handled = none) (hS : SetL prog w s.heap S M n)
    (h : ∀ (I : Addr) (fp wr : List Addr) (ord : List Value) (St : Nat → Heap → Prop) (d : Drawn) (h' : Heap), Walks prog w A I fp wr ord.length (fun i v => ord[i]? = some v) St → St 0 h' → (∀ b ∈ fp, b ∈ wr ∨ b = S) → (∀ b ∈ wr, s.heap.objs.size ≤ b) →
      (∀ i h, St i h → ∀ b ∈ wr, ∃ o, h.get? b = some o ∧ (o.cls = .type "set_iterator" ∨ o.cls = .type "tuple")) → (∀ b o, s.heap.get? b = some o → h'.get? b = some o) →
      (∀ v ∈ ord, ∃ k t, v = .str k t ∧ M k = true) → (∀ k, M k = true → ∃ t, Value.str k t ∈ ord) → Q (.ref I) { s with heap := h', drawn := d }) :
    wpAny (model prog w) A (pyIter (.ref S)) Q E s := by
  obtain ⟨o, es, ep, t, ho, hex, hd, hel, hmem, hb, hf, hn, hled, hpl⟩ := hS
  have hT : s.TypeIs (.ref S) "set" := ⟨o, ho, hex.1⟩
  have hlt : S < s.heap.objs.size := Heap.lt_size ho
  have both : ∀ ord : List Value, ord.Perm (es.toList.map (·.2)) → (∀ v ∈ ord, ∃ k t, v = .str k t ∧ M k = true) ∧ (∀ k, M k = true → ∃ t, Value.str k t ∈ ord) := by
    intro ord hp
    constructor
    · intro v hv
      obtain ⟨e, he, rfl⟩ := List.mem_map.mp (hp.mem_iff.mp hv)
      obtain ⟨⟨k, hk, _⟩, _⟩ := hel e he
      obtain ⟨t', e'⟩ := Value.isStrOf_shape hk
      exact ⟨k, t', e', (hmem k).mpr ⟨e, he, hk⟩⟩
    · intro k hk
      obtain ⟨e, he, hk'⟩ := (hmem k).mp hk
      obtain ⟨t', e'⟩ := Value.isStrOf_shape hk'
      exact ⟨t', hp.mem_iff.mpr (List.mem_map.mpr ⟨e, he, e'⟩)⟩
  refine wpAny_pyIter_slot hT F.slot_set_iter (wpAny_call_entry F.slot_set_iter hT entry_set_iter ?_ (F.args_set_iter_1 _))
  unfold Builtin.«frozenset.__iter__» Builtin.Frozenset.slot0 slotArgs
  simp only [List.isEmpty_nil, Bool.not_true, Bool.false_eq_true, ↓reduceIte, bind_assoc, List.length_nil, bne_self_eq_false]
  unfold Builtin.Frozenset.addrOf Builtin.Frozenset.sizeOf
  refine wpAny_bind (wpAny_pure ?_)
  try dsimp only
  refine wpAny_bind (wpAny_pure ?_)
  refine wpAny_bind (wpAny_bind (wpAny_setEntries_of ho hd hf (wpAny_pure ?_)))
  refine wpAny_bind ?_
  unfold setDrawn setsByText
  refine wpAny_bind (wpAny_setState_of ho hd hf ?_)
  dsimp only
  refine wpAny_bind (wpAny_bind (wpAny_askSetting (wpAny_pure ?_)))
  refine wpAny_pure ?_
  rw [show (model prog w).w = w from rfl]
  show wpAny _ _ (if (!w.params.followText "set-order" && (!t.plain && decide (es.size > 1))) = true then _ else _) _ _ _
  have hS0 : SetIs s.heap S es ep t := ⟨o, ho, hex, hd, hf⟩
  cases hbt : w.params.followText "set-order" with
  | true =>
    rw [if_neg (by simp)]
    refine wpAny_bind (wpAny_pure ?_)
    refine wpAny_bind (wpAny_setEpoch_of ho hd hf ?_)
    refine wpAny_bind (wpAny_newObj_type (wpAny_pure ⟨_, rfl, "set_iterator", _, ⟨_, Heap.get?_push_size _ rfl, rfl⟩, slot_si_next.lookup, ?_⟩))
    have hp : ((pickOrder (w.params.setOrder S ep) es).toList.map (·.2)).Perm (es.toList.map (·.2)) := (pick_perm _ _).map _
    have hl : ((pickOrder (w.params.setOrder S ep) es).toList.map (·.2)).length = es.size := by simpa using hp.length_eq
    have W := walks_text (prog := prog) (w := w) (A := A) (I := s.heap.objs.size) hh (Nat.ne_of_lt hlt) hbt es ep t
    rw [← hl] at W
    refine h _ _ _ _ _ s.drawn _ W ⟨⟨_, Heap.get?_push_size _ rfl, rfl, by rw [hl]; rfl⟩, hS0.at fun o e => Heap.get?_push_of_some _ e⟩ ?_ ?_ ?_ (fun b o e => Heap.get?_push_of_some _ e) (both _ hp).1 (both _ hp).2
    · intro b hb; simp at hb; rcases hb with rfl | rfl <;> simp
    · intro b hb; simp at hb; subst hb; exact Nat.le_refl _
    · rintro i h ⟨⟨o, ho, hc, _⟩, _⟩ b hb; simp at hb; subst hb; exact ⟨o, ho, .inl hc⟩
  | false =>
    rw [hbt] at hled
    by_cases hone : es.size ≤ 1
    · rw [if_neg (by simp; omega)]
      refine wpAny_bind (wpAny_pure ?_)
      refine wpAny_bind (wpAny_setEpoch_of ho hd hf ?_)
      refine wpAny_bind (wpAny_newObj_type (wpAny_pure ⟨_, rfl, "set_iterator", _, ⟨_, Heap.get?_push_size _ rfl, rfl⟩, slot_si_next.lookup, ?_⟩))
      have hl : (es.toList.map (·.2)).length = es.size := by simp
      have W := walks_one (prog := prog) (w := w) (A := A) (I := s.heap.objs.size) hh (Nat.ne_of_lt hlt) hbt es ep t hled hone
      have W' : Walks prog w A s.heap.objs.size [s.heap.objs.size, S] [s.heap.objs.size] (es.toList.map (·.2)).length _ _ := hl.symm ▸ W
      refine h _ _ _ _ _ s.drawn _ W' ⟨⟨_, Heap.get?_push_size _ rfl, rfl, by rw [hl]; rfl⟩, hS0.at fun o e => Heap.get?_push_of_some _ e⟩ ?_ ?_ ?_ (fun b o e => Heap.get?_push_of_some _ e) (both _ (.refl _)).1 (both _ (.refl _)).2
      · intro b hb; simp at hb; rcases hb with rfl | rfl <;> simp
      · intro b hb; simp at hb; subst hb; exact Nat.le_refl _
      · rintro i h ⟨⟨o, ho, hc, _⟩, _⟩ b hb; simp at hb; subst hb; exact ⟨o, ho, .inl hc⟩
    · rw [if_pos (by rw [hpl (by omega)]; simp; omega)]
      refine wpAny_bind (wpAny_drawOrder _ (List.range es.size) _ _ List.length_range fun pl d hpm => wpAny_bind ?_)
      have hll : pl.length = es.size := by simpa using hpm.length_eq
      have hb' := fits_of_scanBound hb
      refine wpAny_newObj_type ?_ (by show (List.toArray _).size ≤ _; simp [hll]; exact hb')
      generalize hO : ({ cls := .type "tuple", dict := none, data := .seq (List.map (fun (j : Nat) => rawInt j) pl).toArray 0 } : Obj) = O
      have hOf : O.isFreed = false := by rw [← hO]; rfl
      have psz : (s.heap.push O).objs.size = s.heap.objs.size + 1 := Heap.size_push _ _
      have hoT : (s.heap.push O).get? s.heap.objs.size = some O := Heap.get?_push_size _ hOf
      refine wpAny_bind (wpAny_setEpoch_of (Heap.get?_push_of_some _ ho) hd hf ?_)
      refine wpAny_bind (wpAny_newObj_type (wpAny_pure ⟨_, rfl, "set_iterator", _, ⟨_, Heap.get?_push_size _ rfl, rfl⟩, slot_si_next.lookup, ?_⟩))
      dsimp only
      have hp : (pl.map fun p => (es.getD p (0, .none)).2).Perm (es.toList.map (·.2)) := by
        refine (hpm.map fun p => (es.getD p (0, .none)).2).trans (List.Perm.of_eq ?_)
        refine List.ext_getElem (by simp) fun i h1 h2 => ?_
        have : i < es.size := by simpa using h2
        simp [Array.getD, this]
      have hl : (pl.map fun p => (es.getD p (0, .none)).2).length = es.size := by simpa using hll
      have W := walks_drawn (prog := prog) (w := w) (A := A) (I := (s.heap.push O).objs.size) (T := s.heap.objs.size) (S := S) hh (by rw [psz]; exact Nat.ne_of_lt (Nat.lt_succ_of_lt hlt)) (by rw [psz]; exact Nat.ne_of_lt (Nat.lt_succ_self _)) es ep t hpm
      have W' : Walks prog w A (s.heap.push O).objs.size [(s.heap.push O).objs.size, s.heap.objs.size, S] [(s.heap.push O).objs.size, s.heap.objs.size] (pl.map fun p => (es.getD p (0, .none)).2).length _ _ := hl.symm ▸ W
      refine h _ _ _ _ _ d _ W' ⟨⟨_, Heap.get?_push_size _ rfl, rfl, by rw [hl]; rfl⟩, hS0.at fun o e => Heap.get?_push_of_some _ (Heap.get?_push_of_some _ e), ?_⟩ ?_ ?_ ?_ (fun b o e => Heap.get?_push_of_some _ (Heap.get?_push_of_some _ e)) (both _ hp).1 (both _ hp).2
      · exact ⟨O, Heap.get?_push_of_some _ hoT, by rw [← hO], 0, by rw [← hO]⟩
      · intro b hb; simp at hb; rcases hb with rfl | rfl | rfl <;> simp
      · intro b hb; rw [psz] at hb; simp at hb; rcases hb with rfl | rfl; exact Nat.le_succ _; exact Nat.le_refl _
      · rintro i h ⟨⟨o, ho, hc, _⟩, _, ⟨o2, ho2, hc2, _⟩⟩ b hb; rcases List.mem_cons.mp hb with rfl | hb; exact ⟨o, ho, .inl hc⟩; (rw [List.mem_singleton.mp hb]; exact ⟨o2, ho2, .inr hc2⟩)
end
section
variable {prog : Program} {w : World} {A : Around} {E : Value → Shared → Prop} {s s₁ : Shared} {env : Env} {h₀ h' : Heap} {x : Str} {body : List Stmt} {Q : Flow → Shared → Prop} {stored : List Str} {m₀ m' : Str → Option Value} {L : Addr} {own news' nx : List (Addr × Obj)} {tk : Nat}
/-- for x in a set of texts that stood at the call -/
theorem for_set {S : Addr} {M : Str → Bool} {n : Nat} {news : List (Addr × Obj)} (stored : List Str) (J : List Value → List (Addr × Obj) → Prop) (hh : A.handled = none) (hS : SetL prog w h₀ S M n) (F : Fr h₀ env.locals s.heap m₀) (N : News h₀ env.locals s.heap news) (hj : J [] news)
    (turn : ∀ met k t (u : Str → Option Value) nx h tk own s', Redrawn s s' → M k = true → OwnOff own (nx.map (·.1)) → (∀ p ∈ own, p.2.cls = .type "set_iterator" ∨ p.2.cls = .type "tuple") → J met nx →
      Fr h₀ env.locals h (fun y => if y = x then some (.str k t) else if stored.contains y then u y else m₀ y) → News h₀ env.locals h (nx ++ own) →
      wpAny (model prog w) A (execs body env) (LpEnd h₀ env.locals x stored m₀ (J (met ++ [.str k t])) own { s' with heap := h, toks := tk } Q) E { s' with heap := h, toks := tk })
    (done : ∀ met (u : Str → Option Value) nx h tk s', Redrawn s s' → (∀ k, M k = true → ∃ t, Value.str k t ∈ met) → J met nx → Fr h₀ env.locals h (fun y => if y = x then u y else if stored.contains y then u y else m₀ y) → News h₀ env.locals h nx → Q .next { s' with heap := h, toks := tk }) :
    wpAny (model prog w) A (pyIter (.ref S)) (fun it s₂ => LoopAtV prog w A h₀ env x body Q E it s₂) E s := by
  have hSs : SetL prog w s.heap S M n := by obtain ⟨o, es, ep, t, ho, r⟩ := id hS; exact ⟨o, es, ep, t, F.keep _ _ ho, r⟩
  obtain ⟨oS, _, _, _, hoS, _⟩ := id hS
  have hlt : S < h₀.objs.size := Heap.lt_size hoS
  refine iter_setL hh hSs fun I fp wr ord St d h' W hst hfp hwr hlive hk hel hall => ?_
  have hsz : env.locals < s.heap.objs.size := F.ns.lt
  refine for_walk (s := { s with heap := h', drawn := d }) W stored (fun i nx => J (ord.take i) nx) (fun o => o.cls = .type "set_iterator" ∨ o.cls = .type "tuple") (fun i h b o st hb e => by
      obtain ⟨o', ho', hc⟩ := hlive i h st b hb
      rw [ho'] at e; cases e; exact hc) ?_ ?_ ?_ (fun i h st b hb => let ⟨o, ho, _⟩ := hlive i h st b hb; ⟨o, ho⟩) ?_ hst (Fr.keptAll F hk) (News.grown N hk) hj ?_ ?_
  · intro hm
    rcases hfp _ hm with h1 | h1
    · exact absurd (hwr _ h1) (Nat.not_le.mpr hsz)
    · exact absurd (Nat.lt_of_lt_of_le hlt F.above) (h1 ▸ Nat.lt_irrefl _)
  · intro b hb
    cases q : h₀.get? b with
    | none => rfl
    | some o => exact absurd (Heap.lt_size (F.keep _ _ q)) (Nat.not_lt.mpr (hwr b hb))
  · intro b hb
    rcases hfp b hb with h1 | h1
    · exact .inl h1
    · exact .inr ⟨oS, h1 ▸ hoS⟩
  · intro p hp hb
    exact absurd (Heap.lt_size (N p hp).1) (Nat.not_lt.mpr (hwr _ hb))
  · intro i v u nx h tk own hi hP hoff hko hJ F₁ N₁
    obtain ⟨k, t, rfl, hM⟩ := hel v (List.mem_of_getElem? hP)
    have e : ord.take (i + 1) = ord.take i ++ [.str k t] := by rw [List.take_add_one, hP]; rfl
    rw [e]
    exact turn _ k t u nx h tk own { s with drawn := d } ⟨d, rfl⟩ hM hoff hko hJ F₁ N₁
  · intro u nx h tk hJ F₁ N₁
    rw [List.take_length] at hJ
    exact done ord u nx h tk { s with drawn := d } ⟨d, rfl⟩ hall hJ F₁ N₁
end
end Mine

end -- S5
theorem Mine.pad_E0 : Mine.PadG := by first | (walk1; fail "pad") | exact trivial
section -- E0
open PySem PySem.W PySem.Calls PyProof.Rows
set_option maxRecDepth 100000
set_option maxHeartbeats 800000
namespace Mine
theorem dummye0 (w : World) (h : Heap) : (hd.heap_1 w.params).In h → PySem.Challenge.rw_nq0028_01.Holds → True := by
  k_fill
  intro _ _; trivial
/-- an object that is a set of texts -/
noncomputable def SetLO (prog : Program) (w : World) (o : Obj) (S : Str → Bool) (n : Nat) : Prop :=
  ∃ es ep t, o.ExactSet ∧ o.data = .set es ep t ∧ ElemsOf (PySem.strKind prog w) es.toList ∧ (∀ k, S k = true ↔ ∃ e ∈ es.toList, (PySem.strKind prog w).is k e.2 = true)
    ∧ es.size < scanBound ∧ t.fits es.size = true ∧ es.size = n ∧ t.led = !(w.params.followText "set-order") ∧ (0 < es.size → t.plain = false)
theorem SetL.obj {prog : Program} {w : World} {h : Heap} {a : Addr} {S : Str → Bool} {n : Nat} (x : SetL prog w h a S n) : ∃ o, h.get? a = some o ∧ SetLO prog w o S n :=
  let ⟨o, es, ep, t, ho, r⟩ := x; ⟨o, ho, es, ep, t, r⟩
theorem SetLO.at {prog : Program} {w : World} {h : Heap} {a : Addr} {o : Obj} {S : Str → Bool} {n : Nat} (x : SetLO prog w o S n) (ho : h.get? a = some o) : SetL prog w h a S n :=
  let ⟨es, ep, t, r⟩ := x; ⟨o, es, ep, t, ho, r⟩
theorem set_strsN {prog : Program} {w : World} {A : Around} {E : Value → Shared → Prop} {s : Shared} {h₀ : Heap} {L : Addr} {m : Str → Option Value} {news : List (Addr × Obj)} {l : Addr} {items : Array Value} {val : Nat → Str} {Q : Value → Shared → Prop}
    (F : Fr h₀ L s.heap m) (N : News h₀ L s.heap news) (hh : A.handled = none) (hl : s.heap.IsList l items) (hi : ∀ (i : Nat) v, items[i]? = some v → ∃ t, v = .str (val i) t) (hb : items.size ≤ 100)
    (h : ∀ D h' tk c o, Fr h₀ L h' m → News h₀ L h' ((D, o) :: news) → (∀ p ∈ news, p.1 < D) → SetLO prog w o (among val items.size) c → c ≤ items.size → Q (.ref D) { s with heap := h', toks := tk }) :
    wpAny (model prog w) A (call (.type "set") [.ref l]) Q E s := by
  refine setL_strs hh hl hi (by unfold scanBound; omega) fun h' tk c hc hS hk => ?_
  obtain ⟨o, ho, hso⟩ := hS.obj
  have hn : h₀.get? s.heap.objs.size = none := next_is_new F
  exact h _ h' tk c o (Fr.keptAll F hk) (news_all (ents := [(s.heap.objs.size, o)]) F (fun p hp => by rw [List.mem_singleton.mp hp]; exact ⟨ho, Heap.get?_none_of_le (Nat.le_refl _)⟩) (News.grown N hk)) (fun p hp => Heap.lt_size (N p hp).1) hso hc
/-- the five things of a reader -/
noncomputable abbrev rdr (w : World) (x dx S DL IG : Addr) (so dl io : Obj) (t1 t2 t3 : Tok) : List (Addr × Obj) :=
  [(IG, io), (DL, dl), (S, so), (x, instObj 79 dx), (dx, dictOf [{ hash := PyData.keyHash w.params (Str.ofString "_mods"), key := Value.str (Str.ofString "_mods") t1, val := Value.ref S },
    { hash := PyData.keyHash w.params (Str.ofString "_dirs"), key := Value.str (Str.ofString "_dirs") t2, val := Value.ref DL },
    { hash := PyData.keyHash w.params (Str.ofString "_ignore"), key := Value.str (Str.ofString "_ignore") t3, val := Value.ref IG }] 3)]
theorem notin2 {a x y : Addr} (h1 : @LT.lt Nat _ x a) (h2 : @LT.lt Nat _ y a) : a ∉ [x, y] := by
  simp only [List.mem_cons, List.not_mem_nil, or_false, not_or]
  exact ⟨Nat.ne_of_gt h1, Nat.ne_of_gt h2⟩
theorem fresh_of {g s : Heap} {ch : List Addr} {a : Addr} (hg : ∀ b o, b ∉ ch → s.get? b = some o → g.get? b = some o) (ha : a ∉ ch) (hn : g.get? a = none) : s.get? a = none := by
  cases q : s.get? a with
  | none => rfl
  | some o => have := hg a o ha q; rw [hn] at this; cases this
section
variable {w : World} {dp un : Nat} {fr : Option (List Env)} {gd : Option (List Code)} {Q E : Value → Shared → Prop} {s : Shared} {mean : ExcName → Option Value} {mg mb : Str → Option Value} {A : Around} {b : Array UInt8} {t u : Tok} {R : Result → Shared → Prop} {h₀ : Heap}
local macro_rules | `(tactic| walk_at "call type:set") => `(tactic| refine stopHere ?_)
theorem init_code {x dx MD : Addr} {us : Array Value} {val : Nat → Str} (X : (hd.heap_1 w.params).In h₀) (T : TT mean mg mb h₀) (k₀ : Keep h₀ s.heap) (hx : h₀.get? x = none) (hdx : h₀.get? dx = none) (hlt : @LT.lt Nat _ dx x)
    (gx : s.heap.get? x = some (instObj 79 dx)) (gdx : s.heap.get? dx = some (dictOf [] 0)) (hl : s.heap.IsList MD us) (hMx : MD ∉ [x, dx]) (hi : ∀ (i : Nat) v, us[i]? = some v → ∃ t, v = .str (val i) t) (hp : 0 < us.size) (hz : us.size ≤ 7) (hA : A.handled = none) (hd : A.depth < 1000)
    (hR : ∀ S DL IG so io c t1 t2 t3 t5 h' tk, KeepBut s.heap h' [x, dx] → (∀ p ∈ rdr w x dx S DL IG so (listOf #[] 0) io t1 t2 t3, h'.get? p.1 = some p.2) → s.heap.get? S = none → s.heap.get? DL = none → s.heap.get? IG = none →
      @LT.lt Nat _ x S → @LT.lt Nat _ S DL → @LT.lt Nat _ DL IG → SetLO PG w so (among val us.size) c → c ≤ us.size → io.IsDictOf (strKind PG w) [(Str.ofString "<string>", Value.int 1 t5)] → (IG == sysModules) = false → R (.ok (.ret .none)) { s with heap := h', toks := tk }) :
    codeAny (model PG w) A (.call (.ref 69) ⟨[.ref x, .ref MD], []⟩) R s := by
  refine' code_mut (ch := [x, dx]) (ents := [(x, instObj 79 dx), (dx, dictOf [] 0)]) (binds := [(Str.ofString "self", .ref x), (Str.ofString "modules", .ref MD), (Str.ofString "dirs", .none)]) X T k₀ ?hm ?he ?k6 ?k7 ?k8 ?k9 ?kB ?_ ?c2 ?c3 ?c4 ?c5
  case hm => intro a ha; simp only [List.mem_cons, List.not_mem_nil, or_false] at ha; rcases ha with rfl | rfl <;> assumption
  case he => intro p hp; simp only [List.mem_cons, List.not_mem_nil, or_false] at hp; rcases hp with rfl | rfl; exact ⟨gx, by simp⟩; exact ⟨gdx, by simp⟩
  case k6 => k_is
  case k7 => k_is
  case k8 => exact hd
  case k9 => have X' := X.keeps k₀; first | exact BindsTo.of_eq rfl | exact binds_K X' rfl (by k_is) rfl rfl rfl
  case kB => exact locs rfl
  case c2 => exact rfl
  case c3 => exact rfl
  case c4 => exact rfl
  case c5 => decide
  intro g L h₁ hg X1 T1 F1 N1
  have hl1 : g.IsList MD us := hl.at fun o e => hg MD o hMx e
  k_steps
  all_goals (try dsimp only)
  · rename us.isEmpty = true => e9
    simp at e9
    subst e9
    simp at hp
  · unfold Stop
    (with_reducible rename Fr _ _ _ _ => kF')
    (with_reducible rename News _ _ _ _ => kN')
    k_dflt (refine' set_strsN kF' kN' ?k1 (keepL kF'.keep ?k2) ?k3 ?k4 ?_; (case k1 => first | exact rfl | assumption); (case k2 => assumption); (case k3 => assumption); (case k4 => omega); intro D' h' tk' c' o' F' N' l1 hs' hc'; (try k_lt l1); (try k_sweep); (try dsimp only))
    k_steps
    all_goals (try dsimp only)
    rename us.isEmpty = false => e9
    (with_reducible rename Fr _ _ _ _ => F9)
    (with_reducible rename News _ _ _ _ => N9)
    rename SetLO _ _ _ _ _ => hs9
    rename Obj.IsDictOf _ _ _ => hd9
    rename _ ≤ us.size => hc9
    refine hR _ _ _ _ _ _ _ _ _ _ _ _ (fun b o hb e => F9.keep b o (hg b o hb e)) (fun p hp => (N9 p hp).1) ?_ ?_ ?_ ?_ ?_ ?_ hs9 hc9 hd9 (by assumption)
    · exact fresh_of hg (notin2 (by omega) (by omega)) (N9 _ (.tail _ (.tail _ (.head _)))).2.2
    · exact fresh_of hg (notin2 (by omega) (by omega)) (N9 _ (.tail _ (.head _))).2.2
    · exact fresh_of hg (notin2 (by omega) (by omega)) (N9 _ (.head _)).2.2
    · omega
    · omega
    · omega
end
end Mine

end -- E0
theorem Mine.pad_E1 : Mine.PadG := by first | (walk1; fail "pad") | exact trivial
section -- E1
open PySem PySem.W PySem.Calls PyProof.Rows
set_option maxRecDepth 100000
set_option maxHeartbeats 800000
namespace Mine
theorem dummye1 (w : World) (h : Heap) : (hd.heap_1 w.params).In h → PySem.Challenge.rw_nq0028_01.Holds → True := by
  k_fill
  intro _ _; trivial
theorem notin2' {L x y : Addr} (h1 : x ≠ L) (h2 : y ≠ L) : L ∉ [x, y] := by
  simp only [List.mem_cons, List.not_mem_nil, or_false, not_or]
  exact ⟨Ne.symm h1, Ne.symm h2⟩
theorem sub7 {α : Type} {a b c d e f g : α} {own : List α} : ∀ p ∈ [a, b, c, d, e, f, g], p ∈ a :: b :: c :: d :: e :: f :: g :: own := fun p hp => by
  simp only [List.mem_cons, List.not_mem_nil, or_false] at hp ⊢
  rcases hp with h | h | h | h | h | h | h <;> simp [h]
theorem own7 {α : Type} {a b c d e f g : α} {own : List α} : ∀ p ∈ own, p ∈ a :: b :: c :: d :: e :: f :: g :: own := fun p hp => by simp [hp]
/-- a reader's things while its directories are told -/
noncomputable def DirJ (how : Int) (ds : List Value) (w : World) (x dx S DL IG : Addr) (so io : Obj) (t1 t2 t3 : Tok) (e1 e2 : Addr × Obj) (i : Nat) (nx : List (Addr × Obj)) : Prop :=
  ∃ (vals : List Value) (nd : Nat), nx = rdr w x dx S DL IG so (listOf vals.toArray nd) io t1 t2 t3 ++ [e1, e2] ∧ vals.length = i ∧ ∀ j, j < i → ∃ t, vals[j]? = some (.str (spell how (rowOf (ds.getD j .none))) t)
theorem notinLt {a x dx : Addr} (h1 : a < dx) (h2 : dx < x) : a ∉ [x, dx] := by
  simp only [List.mem_cons, List.not_mem_nil, or_false, not_or]
  exact ⟨Nat.ne_of_lt (Nat.lt_trans h1 h2), Nat.ne_of_lt h1⟩
theorem new_of {h₀ h : Heap} {L a : Addr} {m : Str → Option Value} (F : Fr h₀ L h m) (hn : h.get? a = none) : a ≠ L ∧ h₀.get? a = none := by
  constructor
  · rintro rfl
    obtain ⟨o, _, _, ho, _⟩ := F.ns
    rw [hn] at ho; cases ho
  · cases q : h₀.get? a with
    | none => rfl
    | some o => have := F.keep _ _ q; rw [hn] at this; cases this
theorem rdr_new {w : World} {h₀ h : Heap} {L x dx S DL IG : Addr} {m : Str → Option Value} {so dl io : Obj} {t1 t2 t3 : Tok} (F : Fr h₀ L h m) (hx : x ≠ L ∧ h₀.get? x = none) (hd : dx ≠ L ∧ h₀.get? dx = none) (fS : h.get? S = none) (fD : h.get? DL = none) (fI : h.get? IG = none) :
    ∀ p ∈ rdr w x dx S DL IG so dl io t1 t2 t3, p.1 ≠ L ∧ h₀.get? p.1 = none := by
  intro p hp
  simp only [List.mem_cons, List.not_mem_nil, or_false] at hp
  rcases hp with rfl | rfl | rfl | rfl | rfl
  · exact new_of F fI
  · exact new_of F fD
  · exact new_of F fS
  · exact hx
  · exact hd
section
variable {w : World} {dp un : Nat} {fr : Option (List Env)} {gd : Option (List Code)} {Q E : Value → Shared → Prop} {s : Shared} {mean : ExcName → Option Value} {mg mb : Str → Option Value} {A : Around} {b : Array UInt8} {t u : Tok}
local macro_rules | `(tactic| walk_at "eval ListComp") => `(tactic| (walk_at "mine_lc"))
local macro_rules | `(tactic| walk_at "eval Name") => `(tactic| (walk_at "mine_name"))
local macro_rules | `(tactic| walk_at "pyIter ref") => `(tactic| refine stopHere ?_)
local macro_rules | `(tactic| walk_at "exec For Name Name cons nil") => `(tactic| (walk_at "mine_for"))
local macro_rules | `(tactic| walk_at "call ref") => `(tactic| (k_here; (with_reducible rename Fr _ _ _ _ => kF'); k_dflt (refine' spelled_spec ?kh (Frag.In.keeps ?kX kF'.keep) (Top.keeps ?kT kF'.keep) ?kd ?kb ?kl ?_; (case kh => assumption); (case kb => assumption); (case kl => omega); (walk_at "mine_ctx"); intro t' h' tk' hk'; (walk_at "mine_kept"))))
local macro_rules | `(tactic| walk_at "call builtin:list.append") => `(tactic| (walk_at "mine_app"))
theorem made_spec {how : Int} {v : Tok} {lm ld : Addr} {ms ds : List Value} (hh : how = 0 ∨ how = 1 ∨ how = 2 ∨ how = 3)
    (X : (hd.heap_1 w.params).In s.heap) (T : TT mean mg mb s.heap) (hd : dp < 930) (hm : s.heap.IsList lm ms.toArray) (hD : s.heap.IsList ld ds.toArray) (hmr : RowsIn 9 ms) (hdr : RowsIn 9 ds) (hml : 0 < ms.length) (hmz : ms.length ≤ 7) (hdz : ds.length ≤ 7)
    (hQ : ∀ x dx S DL IG so io c t1 t2 t3 t5 vals nd h' tk, Keep s.heap h' → (∀ p ∈ rdr w x dx S DL IG so (listOf (List.toArray vals) nd) io t1 t2 t3, h'.get? p.1 = some p.2 ∧ s.heap.get? p.1 = none) →
      @LT.lt Nat _ dx x → @LT.lt Nat _ x S → @LT.lt Nat _ S DL → @LT.lt Nat _ DL IG → SetLO PG w so (among (fun i => spell how (rowOf (ms.getD i .none))) ms.length) c → c ≤ 7 → io.IsDictOf (strKind PG w) [(Str.ofString "<string>", Value.int 1 t5)] → (IG == sysModules) = false →
      vals.length = ds.length → (∀ j, j < ds.length → ∃ t, vals[j]? = some (.str (spell how (rowOf (ds.getD j .none))) t)) → Q (.ref x) { s with heap := h', toks := tk }) :
    wpAny (model PG w) (AA dp un fr gd) (call (.ref 175) [.ref lm, .ref ld, .int how v]) Q E s := by
  refine' enter_cells (binds := [(Str.ofString "mods", .ref lm), (Str.ofString "dirs", .ref ld), (Str.ofString "how", .int how v)]) ?kX ?kT ?k6 ?k7 ?k8 ?k9 ?kB ?kD ?_ ?c2 ?c3 ?c4
  k_dflt (walk_at "mine_centr")
  k_steps
  all_goals (try dsimp only)
  unfold Stop
  (with_reducible rename Fr _ _ _ _ => F1)
  (with_reducible rename News _ _ _ _ => N1)
  refine src_listN (fun i y fp => (∃ t, y = .str (spell how (rowOf (ms.getD i .none))) t) ∧ fp = []) rfl (keepL F1.keep hm) (by rw [sizeLine_eq]; omega) (by intro b hb; cases hb) rfl rfl ?_ ?_
  · intro i v C h tk m own E' hv FC NC
    have X' := X.keeps F1.keep
    have T' := Top.keeps T F1.keep
    obtain ⟨b9, t9, rfl, l9⟩ := hmr v (List.mem_of_getElem? hv)
    obtain ⟨r9, e9⟩ : ∃ r, KBw.bInts b9 = r := ⟨_, rfl⟩
    rw [e9] at l9
    k_steps
    all_goals (try dsimp only)
    have e8 : spell how r9 = spell how (rowOf (ms.getD i .none)) := by
      have : ms.getD i .none = .bytes b9 t9 := by rw [List.getD, hv]; rfl
      rw [this, ← e9]; rfl
    exact ElF.flat (by assumption) (by assumption) (fun _ h => h) ⟨⟨_, congrArg (fun z => Value.str z _) e8⟩, rfl⟩
  · intro MD h3 tk us fps hMD hpl hy hf hG hF hPw hk
    dsimp only
    have hk' : Keep _ h3 := fun b o e => hk b o (by simp) e
    have F3 := Fr.keptAll F1 hk'
    obtain ⟨nu, hMDg⟩ := hpl
    have N3 := news_all (ents := [(MD, listOf us nu)]) F1 (fun p hp => by rw [List.mem_singleton.mp hp]; exact ⟨hMDg, hMD⟩) (News.grown N1 hk')
    simp only [List.cons_append, List.nil_append] at N3
    clear F1 N1
    k_unmd
    k_steps
    all_goals (try dsimp only)
    k_dflt (refine' call_cls F3 X N3 ?k4 ?k5 ?k6 ?_)
    case k4 => k_is
    case k5 => k_is
    case k6 => k_is
    intro x dx h4 F4 N4 l1 l2
    have hM4 := N4 _ (.tail _ (.tail _ (.head _)))
    have hx4 := N4 _ (.head _)
    have hd4 := N4 _ (.tail _ (.head _))
    have hMl : @LT.lt Nat _ MD dx := l1 _ (.head _)
    have hus : ∀ (i : Nat) v, us[i]? = some v → ∃ t, v = .str (spell how (rowOf (ms.getD i .none))) t := fun i v hv => by
      have hlt : i < us.size := (Array.getElem?_eq_some_iff.mp hv).1
      obtain ⟨y, f, h1, h2, h3, _⟩ := comp_all hy hf hG i (by omega)
      rw [hv] at h1; cases h1; exact h3
    refine init_code (h₀ := s.heap) (dx := dx) (us := us) (val := fun i => spell how (rowOf (ms.getD i .none))) X T F4.keep hx4.2.2 hd4.2.2 l2 hx4.1 hd4.1 ⟨_, hM4.1, rfl, _, rfl⟩ ?_ hus (by omega) (by omega) rfl ?_ ?_
    · simp only [List.mem_cons, List.not_mem_nil, or_false, not_or]
      exact ⟨Nat.ne_of_lt (Nat.lt_trans hMl l2), Nat.ne_of_lt hMl⟩
    · simp only [depth_under_make, depth_under_kw, depth_in1, depth_deeper, depth_caller]
      (try dsimp only [AA])
      omega
    · intro S DL IG so io c t1 t2 t3 t5 h5 tk5 hk5 he5 fS fD fI l3 l4 l5 hso hc hio hlo
      refine ⟨rfl, ?_⟩
      dsimp only
      have F5 := Fr.but F4 hk5 (notin2' hx4.2.1 hd4.2.1) (by intro a ha; simp only [List.mem_cons, List.not_mem_nil, or_false] at ha; rcases ha with rfl | rfl; exact hx4.2.2; exact hd4.2.2)
      have N5 := News.but (rest := _) (ents := rdr w x dx S DL IG so (listOf #[] 0) io t1 t2 t3) (fun p hp => N4 p (.tail _ (.tail _ hp))) hk5 (fun p hp => notinLt (l1 p hp) l2) (fun p hp => ⟨he5 p hp, rdr_new F4 hx4.2 hd4.2 fS fD fI p hp⟩)
      (k_lt l1)
      (k_lt2 l2)
      clear F3 N3 F4 N4 hx4 hd4 hM4 hk5 he5
      simp only [rdr, List.cons_append, List.nil_append] at N5
      k_steps
      all_goals (try dsimp only)
      unfold Stop
      (with_reducible rename Fr _ _ _ _ => F6)
      (with_reducible rename News _ _ _ _ => N6)
      refine for_list [] (DirJ how ds w x dx S DL IG so io t1 t2 t3 _ _) rfl hD F6 N6 ⟨[], 0, rfl, rfl, fun j hj => absurd hj (by omega)⟩ ?_ ?_
      · rintro i v u9 nx h9 tk9 own hv hoff hko ⟨vals, nd, rfl, hvl, hvj⟩ F7 N7
        obtain ⟨b9, t9, rfl, l9⟩ := hdr v (List.mem_of_getElem? hv)
        obtain ⟨r9, e9⟩ : ∃ r, KBw.bInts b9 = r := ⟨_, rfl⟩
        rw [e9] at l9
        have hi7 : i < 7 := by have := (List.getElem?_eq_some_iff.mp hv).1; omega
        have e8 : spell how r9 = spell how (rowOf (ds.getD i .none)) := by
          have : ds.getD i .none = .bytes b9 t9 := by rw [List.getD, hv]; rfl
          rw [this, ← e9]; rfl
        clear F6 N6
        simp only [rdr, List.map_cons, List.map_nil, List.cons_append, List.nil_append] at hoff N7
        k_steps
        all_goals (try dsimp only)
        (with_reducible rename Fr _ _ _ _ => F9)
        (with_reducible rename News _ _ _ _ => N9)
        simp only [pushL] at N9
        refine LpEnd.next F9 N9 ?_ sub7 own7 hoff ?_
        · refine ⟨vals ++ [.str (spell how r9) _], nd + 1, rfl, by simp [hvl], fun j hj => ?_⟩
          by_cases e : j < i
          · obtain ⟨t', h⟩ := hvj j e
            exact ⟨t', by rw [List.getElem?_append_left (by omega)]; exact h⟩
          · have : j = i := by omega
            subst this
            exact ⟨_, by rw [List.getElem?_append_right (by omega), hvl, ← e8]; simp; rfl⟩
        · intro z h1 h2; simp only [if_neg h1, h2, Bool.false_eq_true, if_false]
      · rintro u9 nx h9 tk9 ⟨vals, nd, rfl, hvl, hvj⟩ F7 N7
        clear F6 N6
        dsimp only
        k_steps
        all_goals (try dsimp only)
        refine hQ x dx S DL IG so io c t1 t2 t3 t5 vals nd h9 _ F7.keep (fun p hp => ?_) l2 l3 l4 l5 ?_ (by omega) hio hlo hvl hvj
        · have hm9 := N7 p (List.mem_append.mpr (.inl hp))
          exact ⟨hm9.1, hm9.2.2⟩
        · rw [← hy]; exact hso
end
end Mine

end -- E1
theorem Mine.pad_E2 : Mine.PadG := by first | (walk1; fail "pad") | exact trivial
section -- E2
open PySem PySem.W PySem.Calls PyProof.Rows
set_option maxRecDepth 100000
set_option maxHeartbeats 800000
namespace Mine
theorem dummye2 (w : World) (h : Heap) : (hd.heap_1 w.params).In h → PySem.Challenge.rw_nq0028_01.Holds → True := by
  k_fill
  intro _ _; trivial
/-- what a reader remembers -/
noncomputable def MemoIs (kvs : List (Str × Value)) (f : Str → Option Bool) : Prop := ∀ k, match f k with | none => valueAt kvs k = none | some b => ∃ t, valueAt kvs k = some (.int (if b then 1 else 0) t)
theorem valueAt_app {kvs : List (Str × Value)} {k : Str} {v : Value} (h : valueAt kvs k = none) (j : Str) : valueAt (kvs ++ [(k, v)]) j = if j = k then some v else valueAt kvs j := by
  unfold valueAt at *
  rw [List.find?_append]
  by_cases e : j = k
  · subst e
    have h' : kvs.find? (fun kv => decide (kv.1 = j)) = none := by simpa using h
    simp [h']
  · have : (decide (k = j)) = false := by simpa using fun h : k = j => e h.symm
    simp [e, this]
theorem MemoIs.store {kvs : List (Str × Value)} {f : Str → Option Bool} {nm : Str} {b : Bool} {t : Tok} (h : MemoIs kvs f) (hn : valueAt kvs nm = none) : MemoIs (stored kvs nm (.int (if b then 1 else 0) t)) (fun k => if k = nm then some b else f k) := by
  intro k
  rw [stored_absent hn]
  by_cases e : k = nm
  · subst e
    simp only [if_true]
    exact ⟨t, by rw [valueAt_app hn]; simp⟩
  · have := h k
    simp only [if_neg e]
    rw [valueAt_app hn, if_neg e]
    exact this
theorem MemoIs.same {kvs : List (Str × Value)} {f : Str → Option Bool} {nm : Str} {b : Bool} (h : MemoIs kvs f) (hn : f nm = some b) : MemoIs kvs (fun k => if k = nm then some b else f k) := by
  have : (fun k => if k = nm then some b else f k) = f := by
    funext k
    by_cases e : k = nm
    · subst e; simp [hn]
    · simp [e]
  rw [this]; exact h
/-- what a reader answers to a name that it has not met -/
noncomputable def nameAns (ml dl : List Str) (file : Option Str) (nm : Str) : Bool :=
  ml.contains nm || ml.any (fun m => Txt.startswith nm (m ++ Str.ofString ".")) || (match file with | none => true | some q => dl.any fun d => Txt.startswith q (d ++ Str.ofString "/"))
theorem ans_any {ml dl : List Str} {file : Option Str} {nm k : Str} (hk : k ∈ ml) (h : Txt.startswith nm (k ++ Str.ofString ".") = true) : true = nameAns ml dl file nm := by
  have : (ml.any fun m => Txt.startswith nm (m ++ Str.ofString ".")) = true := List.any_eq_true.mpr ⟨k, hk, h⟩
  simp only [nameAns, this, Bool.or_true, Bool.true_or]
theorem ans_dir {ml dl : List Str} {q nm k : Str} (hk : k ∈ dl) (h : Txt.startswith q (k ++ Str.ofString "/") = true) : true = nameAns ml dl (some q) nm := by
  have : (dl.any fun m => Txt.startswith q (m ++ Str.ofString "/")) = true := List.any_eq_true.mpr ⟨k, hk, h⟩
  simp only [nameAns, this, Bool.or_true, Bool.true_or]
theorem ans_none {ml dl : List Str} {q nm : Str} (h1 : ml.contains nm = false) (h2 : (ml.any fun m => Txt.startswith nm (m ++ Str.ofString ".")) = false) (h3 : ∀ j, j < dl.length → Txt.startswith q (dl.getD j (Str.ofString "") ++ Str.ofString "/") = false) : false = nameAns ml dl (some q) nm := by
  have : (dl.any fun m => Txt.startswith q (m ++ Str.ofString "/")) = false := by
    rw [List.any_eq_false]
    intro m hm
    obtain ⟨j, hj⟩ := List.mem_iff_getElem?.mp hm
    have hlt := (List.getElem?_eq_some_iff.mp hj).1
    have := h3 j hlt
    rw [List.getD, hj] at this
    rw [show (some m).getD (Str.ofString "") = m from rfl] at this
    rw [this]; exact Bool.false_ne_true
  simp only [nameAns, h1, h2, this, Bool.or_false]
noncomputable def FileIs (fv : Value) (file : Option Str) : Prop := match file with | none => fv = .none | some q => ∃ t, fv = .str q t
section
variable {w : World} {dp un : Nat} {fr : Option (List Env)} {gd : Option (List Code)} {Q E : Value → Shared → Prop} {s : Shared} {mean : ExcName → Option Value} {mg mb : Str → Option Value} {A : Around} {b : Array UInt8} {t u : Tok} {R : Result → Shared → Prop} {h₀ : Heap}
noncomputable abbrev rdD (w : World) (S DL IG : Addr) (t1 t2 t3 : Tok) : Obj := dictOf [{ hash := PyData.keyHash w.params (Str.ofString "_mods"), key := Value.str (Str.ofString "_mods") t1, val := Value.ref S },
    { hash := PyData.keyHash w.params (Str.ofString "_dirs"), key := Value.str (Str.ofString "_dirs") t2, val := Value.ref DL },
    { hash := PyData.keyHash w.params (Str.ofString "_ignore"), key := Value.str (Str.ofString "_ignore") t3, val := Value.ref IG }] 3
theorem notin3 {a x y z : Addr} (h1 : a ≠ x) (h2 : a ≠ y) (h3 : a ≠ z) : a ∉ [x, y, z] := by
  simp only [List.mem_cons, List.not_mem_nil, or_false, not_or]
  exact ⟨h1, h2, h3⟩
local macro_rules | `(tactic| walk_at "pyIter ref") => `(tactic| refine stopHere ?_)
theorem in_setL {prog : Program} {w : World} {A : Around} {E : Value → Shared → Prop} {s : Shared} {g : Heap} {L S : Addr} {m : Str → Option Value} {M : Str → Bool} {n : Nat} {k : Str} {tn : Tok} {b : Bool} {Q : Value → Shared → Prop} (hS : SetL prog w g S M n) (F : Fr g L s.heap m) (hb : M k = b)
    (h : Q (.bool b) { s with toks := s.toks + 1 }) : wpAny (model prog w) A (compareOp .In (.str k tn) (.ref S)) Q E s := by
  obtain ⟨o, es, ep, t, ho, r⟩ := hS
  have hS' : SetL prog w s.heap S M n := ⟨o, es, ep, t, F.keep _ _ ho, r⟩
  exact wpAny_inSet_of (knd := PySem.strKind _ _) (strKind_is _ _ _ _) rfl hS'.of (by rw [hb]; exact h)
local macro_rules | `(tactic| walk_at "compareOp In str ref") => `(tactic| (k_here; k_dflt (first
  | (refine kda_in (knd := PySem.strKind _ _) (by k_asm) (by k_mem) (by k_asm) (by k_asm) (strKind_is _ _ _ _) _ (by assumption) ?_)
  | (refine in_setL (by assumption) (by k_asm) (by assumption) ?_))))
local macro_rules | `(tactic| walk_at "subscriptTail") => `(tactic| (k_here; k_dflt (with_reducible show wpAny _ _ (subscriptTail _ _ (Value.ref _) (Value.str _ _)) _ _ _); k_dflt (refine kda_item (knd := PySem.strKind _ _) (by k_asm) (by k_mem) (by k_asm) (strKind_is _ _ _ _) (by assumption) ?_)))
local macro_rules | `(tactic| walk_at "setItem ref str") => `(tactic| (k_here; k_dflt (refine' kda_set (knd := PySem.strKind _ _) ?F ?N ?U ?d (strKind_is _ _ _ _) ?z ?_; (case F => k_asm); (case N => k_asm); (case U => k_updF); (case d => k_asm); (case z => (rw [sizeLine_eq]; omega))); intro h' o' F' N' hd'; (try dsimp only at N')))
local macro_rules | `(tactic| walk_at "exec For Name Attribute cons nil") => `(tactic| (walk_at "mine_for"))
noncomputable def SameGO (s s' : Shared) : Prop := s'.gens = s.gens ∧ s'.os = s.os
theorem redrawn_go {s s' : Shared} (h : Redrawn s s') : SameGO s s' := by obtain ⟨d, rfl⟩ := h; exact ⟨rfl, rfl⟩
local macro_rules | `(tactic| walk_at "binaryOp Add str str") => `(tactic| (k_here; k_dflt (refine' add_str ?h ?z; (case z => (rw [sizeLine_eq]; show _ + 1 ≤ _; omega)); intro t' tk'; (try dsimp only))))
local macro_rules | `(tactic| walk_at "call builtin:str.startswith") => `(tactic| (k_here; k_dflt (refine SC.startswith ?_)))
theorem names_code {x dx S DL IG : Addr} {io : Obj} {t1 t2 t3 tn : Tok} {M : Str → Bool} {n : Nat} {dv : List Value} {ml dl : List Str} {kvs : List (Str × Value)} {f : Str → Option Bool} {nm : Str} {fv : Value} {file : Option Str}
    (X : (hd.heap_1 w.params).In h₀) (T : TT mean mg mb h₀) (k₀ : Keep h₀ s.heap) (hx : h₀.get? x = none) (hdx : h₀.get? dx = none) (hig : h₀.get? IG = none)
    (gx : s.heap.get? x = some (instObj 79 dx)) (gdx : s.heap.get? dx = some (rdD w S DL IG t1 t2 t3)) (gig : s.heap.get? IG = some io) (hS : SetL PG w s.heap S M n) (hM : ∀ k, M k = true ↔ k ∈ ml)
    (hD : s.heap.IsList DL dv.toArray) (hdv : dv.length = dl.length) (hdl : ∀ j, j < dl.length → ∃ t, dv[j]? = some (.str (dl.getD j (Str.ofString "")) t)) (hSo : S ∉ [IG, x, dx]) (hDo : DL ∉ [IG, x, dx]) (hxI : x ≠ IG) (hdI : dx ≠ IG) (hxd : x ≠ dx)
    (lo : (IG == sysModules) = false) (hio : io.IsDictOf (PySem.strKind PG w) kvs) (hmemo : MemoIs kvs f) (hlen : kvs.length ≤ 1000) (hfile : FileIs fv file) (hml : ∀ m ∈ ml, m.length ≤ 100) (hdl1 : ∀ m ∈ dl, m.length ≤ 100) (hA : A.handled = none) (hd : A.depth < 980)
    (hR : ∀ a io' kvs' h' tk d t, KeepBut s.heap h' [IG] → h'.get? IG = some io' → io'.IsDictOf (PySem.strKind PG w) kvs' → MemoIs kvs' (fun k => if k = nm then some a else f k) → kvs'.length ≤ kvs.length + 1 →
      a = (f nm).getD (nameAns ml dl file nm) → R (.ok (.ret (.int (if a then 1 else 0) t))) { s with heap := h', toks := tk, drawn := d }) :
    codeAny (model PG w) A (.call (.ref 76) ⟨[.ref x, fv, .str nm tn], []⟩) R s := by
  refine' code_mut (ch := [IG, x, dx]) (ents := [(IG, io), (x, instObj 79 dx), (dx, rdD w S DL IG t1 t2 t3)]) (binds := [(Str.ofString "self", .ref x), (Str.ofString "filename", fv), (Str.ofString "modulename", .str nm tn)]) X T k₀ ?hm ?he ?k6 ?k7 ?k8 ?k9 ?kB ?_ ?c2 ?c3 ?c4 ?c5
  case hm => intro a ha; simp only [List.mem_cons, List.not_mem_nil, or_false] at ha; rcases ha with rfl | rfl | rfl <;> assumption
  case he => intro p hp; simp only [List.mem_cons, List.not_mem_nil, or_false] at hp; rcases hp with rfl | rfl | rfl; exact ⟨gig, by simp⟩; exact ⟨gx, by simp⟩; exact ⟨gdx, by simp⟩
  case k6 => k_is
  case k7 => k_is
  case k8 => exact Nat.lt_trans hd (by decide)
  case k9 => have X' := X.keeps k₀; first | exact BindsTo.of_eq rfl | exact binds_K X' rfl (by k_is) rfl rfl rfl
  case kB => exact locs rfl
  case c2 => exact rfl
  case c3 => exact rfl
  case c4 => exact rfl
  case c5 => decide
  intro g L h₁ hg X1 T1 F1 N1
  have hD1 : g.IsList DL dv.toArray := hD.at fun o e => hg DL o hDo e
  have hS1 : SetL PG w g S M n := by obtain ⟨o, es, ep, t, ho, r⟩ := hS; exact ⟨o, es, ep, t, hg S o hSo ho, r⟩
  have hfn : valueAt kvs nm = none → f nm = none := by
    intro hv
    have := hmemo nm
    cases q : f nm with
    | none => rfl
    | some b => rw [q] at this; obtain ⟨t, ht⟩ := this; rw [hv] at ht; cases ht
  have fin : ∀ (a : Bool) io' kvs' h' tk s' t v m own, v = .int (if a then 1 else 0) t → SameGO s s' → Fr g L h' m → News g L h' ((IG, io') :: (x, instObj 79 dx) :: (dx, rdD w S DL IG t1 t2 t3) :: own) → io'.IsDictOf (PySem.strKind PG w) kvs' → MemoIs kvs' (fun k => if k = nm then some a else f k) →
      kvs'.length ≤ kvs.length + 1 → a = (f nm).getD (nameAns ml dl file nm) → R (.ok (.ret v)) { s' with heap := h', toks := tk } := by
    rintro a io' kvs' h' tk s' t v m own rfl ⟨eg, eo⟩ F N hd' hm' hl' ha
    rw [eg, eo]
    refine hR a io' kvs' h' tk s'.drawn t (fun b o hb e => ?_) (N _ (.head _)).1 hd' hm' hl' ha
    have hbI : b ≠ IG := fun h => hb (by simp [h])
    by_cases h1 : b = x
    · subst h1; rw [gx] at e; cases e; exact (N _ (.tail _ (.head _))).1
    · by_cases h2 : b = dx
      · subst h2; rw [gdx] at e; cases e; exact (N _ (.tail _ (.tail _ (.head _)))).1
      · exact F.keep b o (hg b o (notin3 hbI h1 h2) e)
  have fin0 : valueAt kvs nm = none → ∀ (a : Bool) io' h' tk s' t t' v m own, v = .int (if a then 1 else 0) t → SameGO s s' → Fr g L h' m → News g L h' ((IG, io') :: (x, instObj 79 dx) :: (dx, rdD w S DL IG t1 t2 t3) :: own) → io'.IsDictOf (PySem.strKind PG w) (stored kvs nm (.int (if a then 1 else 0) t')) →
      a = nameAns ml dl file nm → R (.ok (.ret v)) { s' with heap := h', toks := tk } := by
    intro hv a io' h' tk s' t t' v m own e1 e2 F N hd' ha
    exact fin a io' _ h' tk s' t v m own e1 e2 F N hd' (hmemo.store hv) (stored_length_le _ _ _) (by rw [hfn hv]; exact ha)
  cases hv : valueAt kvs nm with
  | some v =>
    have hm : (valueAt kvs nm).isSome = true := by rw [hv]; rfl
    have hb : ∃ b t, f nm = some b ∧ v = .int (if b then 1 else 0) t := by
      have := hmemo nm
      cases q : f nm with
      | none => rw [q] at this; rw [hv] at this; cases this
      | some b => rw [q] at this; obtain ⟨t, ht⟩ := this; rw [hv] at ht; cases ht; exact ⟨b, t, rfl, rfl⟩
    obtain ⟨b, t, hfb, rfl⟩ := hb
    k_steps
    all_goals (try dsimp only)
    refine wpAny_getItem_of (knd := PySem.strKind PG w) (strKind_is _ _ _ _) (kda_dict (by assumption) (by k_mem) (by assumption)).mapOf hv ?_
    k_steps
    all_goals (try dsimp only)
    exact fin b _ _ _ _ _ _ _ _ [] rfl ⟨rfl, rfl⟩ (by assumption) (by assumption) hio (hmemo.same hfb) (Nat.le_succ _) (by rw [hfb]; rfl)
  | none =>
    have hm : (valueAt kvs nm).isSome = false := by rw [hv]; rfl
    cases hMn : M nm with
    | true =>
      have hmn : nm ∈ ml := (hM nm).mp hMn
      k_steps
      all_goals (try dsimp only)
      exact fin0 hv true _ _ _ s _ _ _ _ [] rfl ⟨rfl, rfl⟩ (by assumption) (by assumption) (by assumption) (by simp [nameAns, hmn])
    | false =>
      k_steps
      all_goals (try dsimp only)
      unfold Stop
      (with_reducible rename Fr _ _ _ _ => F2)
      (with_reducible rename News _ _ _ _ => N2)
      refine for_set [] (fun met nx => nx = [(IG, io), (x, instObj 79 dx), (dx, rdD w S DL IG t1 t2 t3)] ∧ ∀ k t, Value.str k t ∈ met → Txt.startswith nm (k ++ Str.ofString ".") = false) hA hS1 F2 N2 ⟨rfl, fun k t h => by cases h⟩ ?_ ?_
      · rintro met k tk0 u9 nx h9 tk9 own s9 hs9 hMk hoff hko ⟨rfl, hJ⟩ F3 N3
        clear F2 N2
        have hgo : SameGO s s9 := ⟨(redrawn_go hs9).1, (redrawn_go hs9).2⟩
        have hkm : k ∈ ml := (hM k).mp hMk
        have hkl : k.length ≤ 100 := hml k hkm
        simp only [List.map_cons, List.map_nil, List.cons_append, List.nil_append] at hoff N3
        k_steps
        all_goals (try dsimp only)
        · rename Txt.startswith _ _ = true => h2
          exact LpEnd.ret (fin0 hv true _ _ _ _ _ _ _ _ own rfl hgo (by assumption) (by assumption) (by assumption) (ans_any hkm h2))
        · rename Txt.startswith _ _ = false => h2
          refine LpEnd.next (nx := [(IG, io), (x, instObj 79 dx), (dx, rdD w S DL IG t1 t2 t3)]) (by assumption) (by assumption) ⟨rfl, fun k' t' h' => ?_⟩ (fun p hp => List.mem_append.mpr (.inl hp)) (fun p hp => List.mem_append.mpr (.inr hp)) hoff (by intro z z1 z2; simp only [if_neg z1, z2, Bool.false_eq_true, if_false])
          rcases List.mem_append.mp h' with h' | h'
          · exact hJ k' t' h'
          · cases List.mem_singleton.mp h'; exact h2
      · rintro met u9 nx h9 tk9 s9 hs9 hall ⟨rfl, hJ⟩ F3 N3
        clear F2 N2
        have hgo : SameGO s s9 := ⟨(redrawn_go hs9).1, (redrawn_go hs9).2⟩
        have hno1 : ml.contains nm = false := by
          cases q : ml.contains nm with
          | false => rfl
          | true => rw [(hM nm).mpr (List.contains_iff_mem.mp q)] at hMn; cases hMn
        have hno2 : (ml.any fun m => Txt.startswith nm (m ++ Str.ofString ".")) = false := by
          rw [List.any_eq_false]
          intro m hm
          obtain ⟨t, ht⟩ := hall m ((hM m).mpr hm)
          rw [hJ m t ht]; exact Bool.false_ne_true
        dsimp only
        cases file with
        | none =>
          obtain rfl : fv = .none := hfile
          k_steps
          all_goals (try dsimp only)
          exact fin0 hv true _ _ _ _ _ _ _ _ [] rfl hgo (by assumption) (by assumption) (by assumption) (by simp [nameAns])
        | some q =>
          obtain ⟨tq, rfl⟩ : ∃ t, fv = .str q t := hfile
          k_steps
          all_goals (try dsimp only)
          unfold Stop
          (with_reducible rename Fr _ _ _ _ => F4)
          (with_reducible rename News _ _ _ _ => N4)
          refine for_list [Str.ofString "mod"] (fun i nx => nx = [(IG, io), (x, instObj 79 dx), (dx, rdD w S DL IG t1 t2 t3)] ∧ ∀ j, j < i → Txt.startswith q (dl.getD j (Str.ofString "") ++ Str.ofString "/") = false) hA hD1 F4 N4 ⟨rfl, fun j h => absurd h (by omega)⟩ ?_ ?_
          · rintro i v u8 nx h8 tk8 own hvi hoff hko ⟨rfl, hJ2⟩ F5 N5
            have hlt : i < dl.length := by have := (List.getElem?_eq_some_iff.mp hvi).1; omega
            obtain ⟨t8, ht8⟩ := hdl i hlt
            rw [hvi] at ht8
            obtain rfl := Option.some.inj ht8
            clear F4 N4
            obtain ⟨d8, hd8⟩ : ∃ d, dl.getD i (Str.ofString "") = d := ⟨_, rfl⟩
            have hdm : d8 ∈ dl := by rw [← hd8, List.getD, List.getElem?_eq_getElem hlt]; exact List.getElem_mem hlt
            have hkl : d8.length ≤ 100 := hdl1 d8 hdm
            rw [hd8] at F5 hvi
            simp only [List.map_cons, List.map_nil, List.cons_append, List.nil_append] at hoff N5
            k_steps
            all_goals (try dsimp only)
            · rename Txt.startswith _ _ = true => h2
              exact LpEnd.ret (fin0 hv true _ _ _ _ _ _ _ _ own rfl hgo (by assumption) (by assumption) (by assumption) (ans_dir hdm h2))
            · rename Txt.startswith _ _ = false => h2
              refine LpEnd.next (nx := [(IG, io), (x, instObj 79 dx), (dx, rdD w S DL IG t1 t2 t3)]) (by assumption) (by assumption) ⟨rfl, fun j hj => ?_⟩ (fun p hp => List.mem_append.mpr (.inl hp)) (fun p hp => List.mem_append.mpr (.inr hp)) hoff (by intro z z1 z2; simp only [if_neg z1, z2, Bool.false_eq_true, if_false])
              by_cases e : j < i
              · exact hJ2 j e
              · have : j = i := by omega
                subst this; rw [hd8]; exact h2
          · rintro u8 nx h8 tk8 ⟨rfl, hJ2⟩ F5 N5
            clear F4 N4
            dsimp only
            k_steps
            all_goals (try dsimp only)
            exact fin0 hv false _ _ _ _ _ _ _ _ [] rfl hgo (by assumption) (by assumption) (by assumption) (ans_none hno1 hno2 (by rw [← hdv]; exact hJ2))
end
end Mine

end -- E2
theorem Mine.pad_C7 : Mine.PadG := by first | (walk1; fail "pad") | exact trivial
section -- C7
open PySem PySem.W PySem.Calls PyProof.Rows PyProof.V PySem.Spec
set_option maxRecDepth 100000
set_option maxHeartbeats 4000000
namespace Mine
/-- a turn's end of a for with any target, whose body may draw -/
noncomputable def LpEndT (h₀ : Heap) (L : Addr) (stored : List Str) (m₀ : Str → Option Value) (J : List (Addr × Obj) → Prop) (own : List (Addr × Obj)) (s₁ : Shared) (Q : Flow → Shared → Prop) (f : Flow) (s₂ : Shared) : Prop :=
  match f with
  | .ret v => Q (.ret v) s₂
  | .brk => Q .next s₂
  | _ => ∃ m' news' nx, SameGO s₁ s₂ ∧ Fr h₀ L s₂.heap m' ∧ News h₀ L s₂.heap news' ∧ (∀ p ∈ nx, p ∈ news') ∧ (∀ p ∈ own, p ∈ news') ∧ OwnOff own (nx.map (·.1)) ∧
      (∀ z, stored.contains z = false → m' z = m₀ z) ∧ J nx
section
variable {prog : Program} {w : World} {A : Around} {E : Value → Shared → Prop} {s s₁ : Shared} {env : Env} {h₀ h' : Heap} {x : Str} {px : Pos} {body : List Stmt} {Q : Flow → Shared → Prop} {stored : List Str} {m₀ m' : Str → Option Value} {L : Addr} {own news' nx : List (Addr × Obj)} {tk : Nat}
theorem LpEndT.next {s₂ : Shared} {J : List (Addr × Obj) → Prop} (hs : SameGO s₁ s₂) (F : Fr h₀ L s₂.heap m') (N : News h₀ L s₂.heap news') (hj : J nx) (hn : ∀ p ∈ nx, p ∈ news') (ho : ∀ p ∈ own, p ∈ news') (ha : OwnOff own (nx.map (·.1)))
    (hm : ∀ z, stored.contains z = false → m' z = m₀ z) : LpEndT h₀ L stored m₀ J own s₁ Q .next s₂ := ⟨m', news', nx, hs, F, N, hn, ho, ha, hm, hj⟩
noncomputable def LoopT (prog : Program) (w : World) (A : Around) (env : Env) (x : Str) (px : Pos) (body : List Stmt) (Q : Flow → Shared → Prop) (E : Value → Shared → Prop) (it : Value) (s₂ : Shared) : Prop :=
  PassesOwn (model prog w) A env E → codeAny (model prog w) A (.forLoop (.Name x px) it body [] env) (fun r s' => match r with | .ok f => Q f s' | .error e => cameBackBy (model prog w) A env E e s') s₂
theorem For_T {m : Str → Option Value} {pos : Pos} {iter : Expr} (_F : Fr h₀ env.locals s.heap m)
    (h : wpAny (model prog w) A (eval iter env) (fun xv s₁ => wpAny (model prog w) A (pyIter xv) (fun it s₂ => LoopT prog w A env x px body Q E it s₂) E s₁) E s)
    (hs : ∀ x, foldedSetIterable iter env x = pure x := by intro _; rfl)
    (hE : PassesOwn (model prog w) A env E := by passes_own) :
    wpAny (model prog w) A (exec (.For (.Name x px) iter body [] pos) env) Q E s :=
  wpAny_For (wpAny_mono h (fun _ _ h₁ => wpAny_mono h₁ (fun _ _ h₂ => h₂ hE) fun _ _ e => e) fun _ _ e => e) hs
theorem for_walkT {I : Addr} {fp wr : List Addr} {n : Nat} {P : Nat → Value → Prop} {St : Nat → Heap → Prop} {news : List (Addr × Obj)} (W : Walks prog w A I fp wr n P St) (stored : List Str) (J : Nat → List (Addr × Obj) → Prop) (KO : Obj → Prop) (hKO : ∀ i h b o, St i h → b ∈ wr → h.get? b = some o → KO o)
    (hLf : env.locals ∉ fp) (hwr : ∀ b ∈ wr, h₀.get? b = none) (hfp : ∀ b ∈ fp, b ∈ wr ∨ ∃ o, h₀.get? b = some o) (hlive : ∀ i h, St i h → ∀ b ∈ wr, ∃ o, h.get? b = some o) (hnw : ∀ p ∈ news, p.1 ∉ wr) (hst : St 0 s.heap)
    (F : Fr h₀ env.locals s.heap m₀) (N : News h₀ env.locals s.heap news) (hj : J 0 news)
    (turn : ∀ i v (u : Str → Option Value) nx s₁ own, SameGO s s₁ → i < n → P i v → OwnOff own (nx.map (·.1)) → (∀ p ∈ own, KO p.2) → J i nx → Fr h₀ env.locals s₁.heap (fun y => if stored.contains y then u y else m₀ y) → News h₀ env.locals s₁.heap (nx ++ own) →
      wpAny (model prog w) A (storeName env x v) (fun _ s₂ => wpAny (model prog w) A (execs body env) (LpEndT h₀ env.locals stored m₀ (J (i + 1)) own s₁ Q) E s₂) E s₁)
    (done : ∀ (u : Str → Option Value) nx s₁, SameGO s s₁ → J n nx → Fr h₀ env.locals s₁.heap (fun y => if stored.contains y then u y else m₀ y) → News h₀ env.locals s₁.heap nx → Q .next s₁) :
    LoopT prog w A env x px body Q E (.ref I) s := by
  intro hE
  have hLw : env.locals ∉ wr := fun h => hLf (W.sub _ h)
  have old : ∀ b o, h₀.get? b = some o → b ∉ wr := fun b o e hb => by rw [hwr b hb] at e; cases e
  have norm : ∀ {m : Str → Option Value}, (∀ z, stored.contains z = false → m z = m₀ z) → m = fun y => if stored.contains y then m y else m₀ y := by
    intro m hm
    funext y
    cases h2 : stored.contains y with
    | true => simp
    | false => simp [hm y h2]
  refine codeAny_forLoop
    (fun k s' => ∃ m' nx i, SameGO s s' ∧ St i s'.heap ∧ Fr h₀ env.locals s'.heap m' ∧ News h₀ env.locals s'.heap nx ∧ (∀ p ∈ nx, p.1 ∉ wr) ∧ (∀ z, stored.contains z = false → m' z = m₀ z) ∧ J i nx ∧ i ≤ n ∧ k = n + 1 - i) ?_ (n + 1)
    ⟨m₀, news, 0, ⟨rfl, rfl⟩, hst, F, N, hnw, fun _ _ => rfl, hj, Nat.zero_le _, rfl⟩
  rintro k s' ⟨m', nx, i, hgo, hst', F', N', hnw', hm', hJ, hi, rfl⟩
  have next : ∀ h₁ : Heap, (∀ b o, b ∉ wr → s'.heap.get? b = some o → h₁.get? b = some o) → Fr h₀ env.locals h₁ m' ∧ News h₀ env.locals h₁ nx := fun h₁ hk₁ =>
    ⟨⟨F'.ns.at' fun o e => hk₁ _ o hLw e, fun b o e => hk₁ b o (old b o e) (F'.keep b o e), F'.above⟩, fun p hp => ⟨hk₁ _ _ (hnw' p hp) (N' p hp).1, (N' p hp).2⟩⟩
  by_cases hlt : i < n
  · refine W.item i _ _ _ hlt hst' fun v h₁ tk₁ hP hst₁ hk₁ => ?_
    obtain ⟨F₁, N₁⟩ := next h₁ hk₁
    have Nown : News h₀ env.locals h₁ (PyProof.Rows.ownOf h₀ fp h₁) := news_ownOf hLf
    have N₂ : News h₀ env.locals h₁ (nx ++ PyProof.Rows.ownOf h₀ fp h₁) := fun p hp => (List.mem_append.mp hp).elim (fun h => N₁ p h) fun h => Nown p h
    have hown : ∀ p ∈ PyProof.Rows.ownOf h₀ fp h₁, p.1 ∈ fp := ownOf_sub
    have hsep : OwnOff (PyProof.Rows.ownOf h₀ fp h₁) (nx.map (·.1)) := by
      intro p hp b hb e
      obtain ⟨q, hq, rfl⟩ := List.mem_map.mp hb
      rcases hfp _ (hown p hp) with h1 | ⟨o, ho⟩
      · exact hnw' q hq (e ▸ h1)
      · have h3 := (N₂ q (List.mem_append.mpr (.inl hq))).2.2
        rw [← e, ho] at h3
        cases h3
    have hko : ∀ p ∈ PyProof.Rows.ownOf h₀ fp h₁, KO p.2 := fun p hp => by
      have hN := Nown p hp
      rcases hfp _ (hown p hp) with h1 | ⟨o, ho⟩
      · exact hKO _ _ _ _ hst₁ h1 hN.1
      · rw [hN.2.2] at ho; cases ho
    rw [norm hm'] at F₁
    have fin : ∀ s₃, (∃ m' news' nx', SameGO { s' with heap := h₁, toks := tk₁ } s₃ ∧ Fr h₀ env.locals s₃.heap m' ∧ News h₀ env.locals s₃.heap news' ∧ (∀ p ∈ nx', p ∈ news') ∧ (∀ p ∈ PyProof.Rows.ownOf h₀ fp h₁, p ∈ news') ∧ OwnOff (PyProof.Rows.ownOf h₀ fp h₁) (nx'.map (·.1)) ∧
      (∀ z, stored.contains z = false → m' z = m₀ z) ∧ J (i + 1) nx') → ∃ m, m < n + 1 - i ∧ ∃ m' nx i, SameGO s s₃ ∧ St i s₃.heap ∧ Fr h₀ env.locals s₃.heap m' ∧ News h₀ env.locals s₃.heap nx ∧ (∀ p ∈ nx, p.1 ∉ wr) ∧ (∀ z, stored.contains z = false → m' z = m₀ z) ∧ J i nx ∧ i ≤ n ∧ m = n + 1 - i := by
      rintro s₃ ⟨m₃, news₃, nx₃, hgo₃, F₃, N₃, hn, ho, ha, hm₃, hJ₃⟩
      refine ⟨n + 1 - (i + 1), by omega, m₃, nx₃, i + 1, ⟨hgo₃.1.trans hgo.1, hgo₃.2.trans hgo.2⟩, ?_, F₃, fun p hp => N₃ p (hn p hp), fun p hp hq => ?_, hm₃, hJ₃, hlt, rfl⟩
      · refine W.frame _ _ _ hst₁ fun b hb o e => ?_
        cases hn : h₀.get? b with
        | some o₀ =>
          have : o₀ = o := by have := F₁.keep b o₀ hn; rw [e] at this; exact (Option.some.inj this).symm
          exact this ▸ F₃.keep b o₀ hn
        | none => exact (N₃ _ (ho _ (mem_ownOf hb hn e))).1
      · obtain ⟨o, hbo⟩ := hlive _ _ hst₁ _ hq
        exact ha _ (mem_ownOf (W.sub _ hq) (hwr _ hq) hbo) p.1 (List.mem_map.mpr ⟨p, hp, rfl⟩) rfl
    refine wpAny_assign_Name (wpAny_mono (wpAny_passesOwn hE (turn i v m' nx { s' with heap := h₁, toks := tk₁ } _ ⟨hgo.1, hgo.2⟩ hlt hP hsep hko hJ F₁ N₂)) (fun _ s₂ h₂ => ?_) fun _ _ e => e)
    refine wpAny_mono (wpAny_passesOwn hE h₂) (fun f s₃ h₃ => ?_) fun _ _ e => e
    cases f with
    | ret v => exact h₃
    | brk => exact h₃
    | next => exact fin _ h₃
    | cont => exact fin _ h₃
  · have hin : i = n := by omega
    subst hin
    refine W.done _ _ _ hst' fun h₁ tk₁ hk₁ => wpAny_execs_nil ?_
    obtain ⟨F₁, N₁⟩ := next h₁ hk₁
    rw [norm hm'] at F₁
    exact done m' nx { s' with heap := h₁, toks := tk₁ } ⟨hgo.1, hgo.2⟩ hJ F₁ N₁
/-- for .. in range(n), any target, the body may draw -/
theorem for_rangeT {r : Addr} {n : Nat} {t₀ u₀ v₀ : Tok} {news : List (Addr × Obj)} (stored : List Str) (J : Nat → List (Addr × Obj) → Prop) (hh : A.handled = none)
    (hr : IsRange s.heap r 0 (n : Int) 1 t₀ u₀ v₀) (hz : n ≤ 1000) (F : Fr h₀ env.locals s.heap m₀) (N : News h₀ env.locals s.heap news) (hj : J 0 news)
    (turn : ∀ (i : Nat) t (u : Str → Option Value) nx s₁ own, SameGO s s₁ → i < n → OwnOff own (nx.map (·.1)) → (∀ p ∈ own, p.2.cls = .type "range_iterator") → J i nx → Fr h₀ env.locals s₁.heap (fun y => if stored.contains y then u y else m₀ y) → News h₀ env.locals s₁.heap (nx ++ own) →
      wpAny (model prog w) A (storeName env x (.int (i : Int) t)) (fun _ s₂ => wpAny (model prog w) A (execs body env) (LpEndT h₀ env.locals stored m₀ (J (i + 1)) own s₁ Q) E s₂) E s₁)
    (done : ∀ (u : Str → Option Value) nx s₁, SameGO s s₁ → J n nx → Fr h₀ env.locals s₁.heap (fun y => if stored.contains y then u y else m₀ y) → News h₀ env.locals s₁.heap nx → Q .next s₁) :
    wpAny (model prog w) A (pyIter (.ref r)) (fun it s₂ => LoopT prog w A env x px body Q E it s₂) E s := by
  have hsize : Builtin.Range.rangeSize 0 (n : Int) 1 = (n : Int) := by
    unfold Builtin.Range.rangeSize
    simp; omega
  have fits : ∀ x : Int, 0 ≤ x → x ≤ 1000 → Builtin.Range.rangeFitsLong x = true := fun x h0 h1 => by
    unfold Builtin.Range.rangeFitsLong
    simp only [Bool.and_eq_true, decide_eq_true_eq]; omega
  have hsmall : Builtin.Range.small 0 (n : Int) 1 = true := by
    unfold Builtin.Range.small
    rw [hsize, fits 0 (by decide) (by decide), fits n (by omega) (by omega), fits 1 (by decide) (by decide)]
    simp
    right
    exact fits _ (by omega) (by omega)
  refine wpAny_pyIter_range hr hsmall ?_
  rw [hsize]
  have W := Walks.range (prog := prog) (w := w) hh s.heap.objs.size 0 1 n
  have hI : h₀.get? s.heap.objs.size = none := next_is_new F
  refine for_walkT (s := { s with heap := s.heap.push _ }) W stored J (fun o => o.cls = .type "range_iterator") (by intro i h b o ho hb e; have ho' := ho; unfold IsRangeIter at ho'; rw [List.mem_singleton.mp hb, ho'] at e; cases e; rfl) ?_ ?_ ?_ ?_ ?_ ?_ (F.push _) (fun p hp => ⟨Heap.get?_push_of_some _ (N p hp).1, (N p hp).2⟩) hj ?_ ?_
  · intro hm
    exact absurd F.ns.lt ((List.mem_singleton.mp hm) ▸ Nat.lt_irrefl _)
  · intro b hb
    rw [List.mem_singleton.mp hb]; exact hI
  · intro b hb
    exact .inl hb
  · intro i h ho b hb
    rw [List.mem_singleton.mp hb]; exact ⟨_, ho⟩
  · intro p hp hI
    exact absurd (Heap.lt_size (N p hp).1) ((List.mem_singleton.mp hI) ▸ Nat.lt_irrefl _)
  · show IsRangeIter _ _ _ _ _
    have := Heap.get?_push_size s.heap (o := { cls := .type "range_iterator", data := .fields #[rawInt 0, rawInt (n : Int), rawInt 1] }) rfl
    simpa [IsRangeIter] using this
  · rintro i v u nx s₁ own hgo hi ⟨t, rfl⟩ hoff hko hJ F₁ N₁
    have e : (0 : Int) + (i : Nat) * 1 = (i : Int) := by omega
    rw [e]
    exact turn i t u nx s₁ own ⟨hgo.1, hgo.2⟩ hi hoff hko hJ F₁ N₁
  · intro u nx s₁ hgo hJ F₁ N₁
    exact done u nx s₁ ⟨hgo.1, hgo.2⟩ hJ F₁ N₁
end
end Mine

end -- C7
theorem Mine.pad_E3 : Mine.PadG := by first | (walk1; fail "pad") | exact trivial
section -- E3
open PySem PySem.W PySem.Calls PyProof.Rows
set_option maxRecDepth 100000
set_option maxHeartbeats 4000000
namespace Mine
theorem dummye3 (w : World) (h : Heap) : (hd.heap_1 w.params).In h → PySem.Challenge.rw_nq0028_01.Holds → True := by
  k_fill
  intro _ _; trivial
/-- a reader that has been made, and what it was told -/
structure Reader (w : World) (h₀ h : Heap) (x dx S DL IG : Addr) (io : Obj) (kvs : List (Str × Value)) (f : Str → Option Bool) (ml dl : List Str) : Prop where
  nx : h₀.get? x = none
  ndx : h₀.get? dx = none
  nig : h₀.get? IG = none
  gx : h.get? x = some (instObj 79 dx)
  gdx : ∃ t1 t2 t3, h.get? dx = some (rdD w S DL IG t1 t2 t3)
  gig : h.get? IG = some io
  isd : io.IsDictOf (PySem.strKind PG w) kvs
  memo : MemoIs kvs f
  gS : ∃ M n, SetL PG w h S M n ∧ ∀ k, M k = true ↔ k ∈ ml
  gD : ∃ dv : List Value, h.IsList DL dv.toArray ∧ dv.length = dl.length ∧ ∀ j, j < dl.length → ∃ t, dv[j]? = some (.str (dl.getD j (Str.ofString "")) t)
  dI : dx ≠ IG
  xd : x ≠ dx
  Sd : S ≠ dx
  Dd : DL ≠ dx
  lo : (IG == sysModules) = false
  lm : ∀ m ∈ ml, m.length ≤ 100
  ld : ∀ m ∈ dl, m.length ≤ 100
/-- pairs as they are told to a reader -/
noncomputable def SpP (how : Int) (qs q : List (Value × Value)) : Prop :=
  q.length = qs.length ∧ ∀ (j : Nat) x y, qs[j]? = some (x, y) → ∃ t fv, q[j]? = some (.str (spell how (rowOf x)) t, fv) ∧ FileIs fv ((fileOf y).map (spell how))
theorem SpP.twice {how : Int} {ps q : List (Value × Value)} (h : SpP how ps q) : SpP how (ps ++ turned ps) (q ++ turned q) := by
  refine ⟨by simp [turned_len, h.1], fun j x y e => ?_⟩
  by_cases hj : j < ps.length
  · rw [List.getElem?_append_left hj] at e
    rw [List.getElem?_append_left (by rw [h.1]; exact hj)]
    exact h.2 j x y e
  · rw [List.getElem?_append_right (by omega)] at e
    rw [List.getElem?_append_right (by rw [h.1]; omega), h.1]
    generalize hi : j - ps.length = i at e ⊢
    have hlt : i < ps.length := by have := (List.getElem?_eq_some_iff.mp e).1; rw [turned_len] at this; exact this
    obtain ⟨⟨a, b⟩, ha⟩ : ∃ p, ps[i]? = some p := ⟨_, List.getElem?_eq_getElem hlt⟩
    obtain ⟨⟨c, d⟩, hc⟩ : ∃ p, ps[ps.length - 1 - i]? = some p := ⟨_, List.getElem?_eq_getElem (by omega)⟩
    rw [turned_at hlt ha hc] at e
    cases e
    obtain ⟨t, fv, e1, _⟩ := h.2 i _ _ ha
    obtain ⟨t', fv', e2, hf⟩ := h.2 _ _ _ hc
    rw [← h.1] at e2
    exact ⟨t, fv', turned_at (by rw [h.1]; exact hlt) e1 e2, hf⟩
theorem list_choice {α : Type} {P : Nat → α → Prop} : ∀ (n : Nat), (∀ j, j < n → ∃ a, P j a) → ∃ l : List α, l.length = n ∧ ∀ j, j < n → ∃ a, l[j]? = some a ∧ P j a := by
  intro n
  induction n with
  | zero => intro _; exact ⟨[], rfl, fun j hj => absurd hj (by omega)⟩
  | succ n ih =>
    intro h
    obtain ⟨l, hl, hp⟩ := ih fun j hj => h j (by omega)
    obtain ⟨a, ha⟩ := h n (by omega)
    refine ⟨l ++ [a], by simp [hl], fun j hj => ?_⟩
    by_cases e : j < n
    · obtain ⟨b, hb, hb'⟩ := hp j e
      exact ⟨b, by rw [List.getElem?_append_left (by omega)]; exact hb, hb'⟩
    · have : j = n := by omega
      subst this
      exact ⟨a, by rw [List.getElem?_append_right (by omega), hl]; simp, ha⟩
/-- the ledger of the telling -/
noncomputable abbrev toldL (HC SP AN A0 A1 A2 A3 : Addr) (IG : Nat → Addr) (oc : Obj) (vals l0 l1 l2 l3 : List Value) (nd n0 n1 n2 n3 : Nat) (io : Nat → Obj) (tps : List (Addr × Obj)) : List (Addr × Obj) :=
  (HC, oc) :: (SP, listOf vals.toArray nd) :: (AN, listOf #[.ref A0, .ref A1, .ref A2, .ref A3] 0) :: (A0, listOf l0.toArray n0) :: (A1, listOf l1.toArray n1) :: (A2, listOf l2.toArray n2) :: (A3, listOf l3.toArray n3) :: (IG 0, io 0) :: (IG 1, io 1) :: (IG 2, io 2) :: (IG 3, io 3) :: tps
noncomputable abbrev toldA (HC SP AN A0 A1 A2 A3 : Addr) (IG : Nat → Addr) : List Addr := [HC, SP, AN, A0, A1, A2, A3, IG 0, IG 1, IG 2, IG 3]
theorem isDict_cls {prog : Program} {w : World} {io : Obj} {kvs : List (Str × Value)} (h : io.IsDictOf (PySem.strKind prog w) kvs) : io.cls = .type "dict" := by
  obtain ⟨es, ep, hex, _⟩ := h
  exact hex.1
theorem off_fresh {h₀ h : Heap} {L : Addr} {nx ents : List (Addr × Obj)} (he : ∀ p ∈ ents, h.get? p.1 = none) (N : News h₀ L h nx) : OwnOff ents (nx.map (·.1)) := by
  intro p hp b hb e
  obtain ⟨q, hq, rfl⟩ := List.mem_map.mp hb
  have := (N q hq).1
  rw [← e, he p hp] at this; cases this
theorem OwnOff.app {a b : List (Addr × Obj)} {l : List Addr} (h1 : OwnOff a l) (h2 : OwnOff b l) : OwnOff (a ++ b) l := fun p hp => (List.mem_append.mp hp).elim (h1 p) (h2 p)
theorem OwnOff.sub {a : List (Addr × Obj)} {l l' : List Addr} (h1 : OwnOff a l) (h : ∀ b ∈ l', b ∈ l) : OwnOff a l' := fun p hp b hb => h1 p hp b (h b hb)
theorem sub_told {HC SP AN A0 A1 A2 A3 : Addr} {IG : Nat → Addr} {oc : Obj} {vals l0 l1 l2 l3 : List Value} {nd n0 n1 n2 n3 : Nat} {io : Nat → Obj} {tps tps' : List (Addr × Obj)} (h : ∀ p ∈ tps, p ∈ tps') :
    ∀ p ∈ toldL HC SP AN A0 A1 A2 A3 IG oc vals l0 l1 l2 l3 nd n0 n1 n2 n3 io tps, p ∈ toldL HC SP AN A0 A1 A2 A3 IG oc vals l0 l1 l2 l3 nd n0 n1 n2 n3 io tps' := by
  intro p hp
  simp only [toldL, List.mem_cons] at hp ⊢
  rcases hp with e | e | e | e | e | e | e | e | e | e | e | e <;> first | simp [e] | (simp [h p e])
theorem adr_told {HC SP AN A0 A1 A2 A3 : Addr} {IG : Nat → Addr} {oc : Obj} {vals l0 l1 l2 l3 : List Value} {nd n0 n1 n2 n3 : Nat} {io : Nat → Obj} {tps : List (Addr × Obj)} :
    ∀ b ∈ toldA HC SP AN A0 A1 A2 A3 IG, b ∈ (toldL HC SP AN A0 A1 A2 A3 IG oc vals l0 l1 l2 l3 nd n0 n1 n2 n3 io tps).map (·.1) := by
  intro b hb
  simp only [toldL, toldA, List.map_cons, List.mem_cons, List.not_mem_nil, or_false] at hb ⊢
  rcases hb with e | e | e | e | e | e | e | e | e | e | e <;> simp [e]
theorem tail_told {HC SP AN A0 A1 A2 A3 : Addr} {IG : Nat → Addr} {oc : Obj} {vals l0 l1 l2 l3 : List Value} {nd n0 n1 n2 n3 : Nat} {io : Nat → Obj} {tps : List (Addr × Obj)} {p : Addr × Obj} (h : p ∈ tps) :
    p ∈ toldL HC SP AN A0 A1 A2 A3 IG oc vals l0 l1 l2 l3 nd n0 n1 n2 n3 io tps := .tail _ (.tail _ (.tail _ (.tail _ (.tail _ (.tail _ (.tail _ (.tail _ (.tail _ (.tail _ (.tail _ h))))))))))
theorem tadr_told {HC SP AN A0 A1 A2 A3 : Addr} {IG : Nat → Addr} {oc : Obj} {vals l0 l1 l2 l3 : List Value} {nd n0 n1 n2 n3 : Nat} {io : Nat → Obj} {tps : List (Addr × Obj)} {b : Addr} (h : b ∈ tps.map (·.1)) :
    b ∈ (toldL HC SP AN A0 A1 A2 A3 IG oc vals l0 l1 l2 l3 nd n0 n1 n2 n3 io tps).map (·.1) := by
  obtain ⟨p, hp, rfl⟩ := List.mem_map.mp h
  exact List.mem_map.mpr ⟨p, tail_told hp, rfl⟩
theorem off_told {HC SP AN A0 A1 A2 A3 : Addr} {IG : Nat → Addr} {oc : Obj} {vals l0 l1 l2 l3 : List Value} {nd n0 n1 n2 n3 : Nat} {io : Nat → Obj} {tps own : List (Addr × Obj)} (h1 : OwnOff own (toldA HC SP AN A0 A1 A2 A3 IG)) (h2 : OwnOff own (tps.map (·.1))) :
    OwnOff own ((toldL HC SP AN A0 A1 A2 A3 IG oc vals l0 l1 l2 l3 nd n0 n1 n2 n3 io tps).map (·.1)) := by
  intro p hp b hb
  simp only [toldL, List.map_cons, List.mem_cons] at hb
  rcases hb with e | e | e | e | e | e | e | e | e | e | e | e
  all_goals first | exact h2 p hp b e | (subst e; exact h1 p hp _ (by simp))
theorem News.more {h₀ h h' : Heap} {L : Addr} {m : Str → Option Value} {nx ents : List (Addr × Obj)} (F : Fr h₀ L h m) (N : News h₀ L h' nx) (he : ∀ p ∈ ents, h'.get? p.1 = some p.2 ∧ h.get? p.1 = none) : News h₀ L h' (nx ++ ents) := by
  have := news_all F he N
  intro p hp
  exact this p (List.mem_append.mpr ((List.mem_append.mp hp).symm))
noncomputable def SpelledL (qs : List (Value × Value)) (vals : List Value) (tps : List (Addr × Obj)) (i : Nat) : Prop :=
  vals.length = i ∧ ∀ k : Nat, k < i → ∃ T bs q, vals[k]? = some (.ref T) ∧ (T, listOf (List.toArray bs) 0) ∈ tps ∧ PairsL tps bs q ∧ SpP k qs q
noncomputable def ToldJ1 (HC SP AN A0 A1 A2 A3 : Addr) (IG : Nat → Addr) (io : Nat → Obj) (qs : List (Value × Value)) (i : Nat) (nx : List (Addr × Obj)) : Prop :=
  ∃ oc v0 vals nd tps, nx = toldL HC SP AN A0 A1 A2 A3 IG oc vals [] [] [] [] nd 0 0 0 0 io tps ∧ oc.data = .cell v0 ∧ OwnOff tps (toldA HC SP AN A0 A1 A2 A3 IG) ∧ SpelledL qs vals tps i
/-- what a reader remembers behind some asks -/
noncomputable def memoF (ml dl : List Str) (nm : Nat → Str) (fl : Nat → Option Str) (f : Str → Option Bool) : Nat → Str → Option Bool
  | 0 => f
  | j + 1 => fun k => if k = nm j then some ((memoF ml dl nm fl f j (nm j)).getD (nameAns ml dl (fl j) (nm j))) else memoF ml dl nm fl f j k
noncomputable def ansF (ml dl : List Str) (nm : Nat → Str) (fl : Nat → Option Str) (f : Str → Option Bool) (j : Nat) : Bool := (memoF ml dl nm fl f j (nm j)).getD (nameAns ml dl (fl j) (nm j))
noncomputable def qn (qs : List (Value × Value)) (how j : Nat) : Str := spell how (rowOf (qs.getD j (.none, .none)).1)
noncomputable def qf (qs : List (Value × Value)) (how j : Nat) : Option Str := (fileOf (qs.getD j (.none, .none)).2).map (spell how)
structure StateAt (w : World) (ml dl : List Str) (f : Str → Option Bool) (qs : List (Value × Value)) (how j : Nat) (l : List Value) (io : Obj) (kv : List (Str × Value)) : Prop where
  isd : io.IsDictOf (PySem.strKind PG w) kv
  memo : MemoIs kv (memoF ml dl (qn qs how) (qf qs how) f j)
  len : kv.length ≤ 10 + j
  ll : l.length = j
  ans : ∀ p, p < j → ∃ t, l[p]? = some (.str (ansS (ansF ml dl (qn qs how) (qf qs how) f p)) t)
noncomputable def four (A0 A1 A2 A3 : Addr) (k : Nat) : Addr := if k = 0 then A0 else if k = 1 then A1 else if k = 2 then A2 else A3
noncomputable def ToldJ2 (w : World) (HC SP AN A0 A1 A2 A3 : Addr) (IG : Nat → Addr) (vals : List Value) (nd : Nat) (tps : List (Addr × Obj)) (ml dl : Nat → List Str) (f : Nat → Str → Option Bool) (qs : List (Value × Value)) (jj : Nat → Nat) (nx : List (Addr × Obj)) : Prop :=
  ∃ (oc : Obj) (v0 : Option Value) (ls : Nat → List Value) (ns : Nat → Nat) (io : Nat → Obj) (kv : Nat → List (Str × Value)), nx = toldL HC SP AN A0 A1 A2 A3 IG oc vals (ls 0) (ls 1) (ls 2) (ls 3) nd (ns 0) (ns 1) (ns 2) (ns 3) io tps ∧ oc.data = .cell v0 ∧
    ∀ k, k < 4 → StateAt w (ml k) (dl k) (f k) qs k (jj k) (ls k) (io k) (kv k)
theorem item_at {w : World} {Q E : Value → Shared → Prop} {s : Shared} {A : Around} {l : Addr} {vs : List Value} {value slice : Expr} {k : Nat} {u : Tok} {v : Value} (hl : s.heap.IsList l vs.toArray) (hv : vs[k]? = some v) (hz : vs.length ≤ 1000000) (h : Q v s)
    (hs : subscripted slice false (.ref l) (.int (k : Int) u) = operate [.ref l, .int (k : Int) u] (getItem (.ref l) (.int (k : Int) u))) : wpAny (model PG w) A (subscriptTail value slice (.ref l) (.int (k : Int) u)) Q E s := by
  refine item_L hl (by omega) (by have := (List.getElem?_eq_some_iff.mp hv).1; omega) hz (fun v' hv' => ?_) hs
  rw [Int.toNat_natCast, hv] at hv'; cases hv'; exact h
theorem inst_of {g h : Heap} {L x dx : Addr} {m : Str → Option Value} {od : Obj} (F : Fr g L h m) (h1 : g.get? x = some (instObj 79 dx)) (h2 : g.get? dx = some od) : PySem.W.InstAt h x (instObj 79 dx) 79 (some od) := ⟨F.keep _ _ h1, rfl, rfl, F.keep _ _ h2⟩
theorem memL {α : Type} {a : α} {l : List α} (h : a ∈ l) : List.Mem a l := h
theorem lt4 {P : Nat → Prop} (h0 : P 0) (h1 : P 1) (h2 : P 2) (h3 : P 3) : ∀ k, k < 4 → P k := by
  intro k hk
  match k, hk with
  | 0, _ => exact h0
  | 1, _ => exact h1
  | 2, _ => exact h2
  | 3, _ => exact h3
theorem News.repl {h₀ h h' : Heap} {L a : Addr} {o' : Obj} {nx nx' : List (Addr × Obj)} (N : News h₀ L h nx) (k : KeepBut h h' [a]) (ho : h'.get? a = some o') (haL : a ≠ L) (ha : h₀.get? a = none) (hs : ∀ p ∈ nx', p = (a, o') ∨ (p ∈ nx ∧ p.1 ≠ a)) : News h₀ L h' nx' := by
  intro p hp
  rcases hs p hp with rfl | ⟨h1, h2⟩
  · exact ⟨ho, haL, ha⟩
  · exact ⟨k _ _ (by simpa using h2) (N p h1).1, (N p h1).2⟩
theorem drop11 {h₀ h : Heap} {L : Addr} {a b c d e f g i j k l : Addr × Obj} {r : List (Addr × Obj)} (N : News h₀ L h (a :: b :: c :: d :: e :: f :: g :: i :: j :: k :: l :: r)) : News h₀ L h r := fun p hp => N p (by simp [hp])
theorem drop7 {h₀ h : Heap} {L : Addr} {a b c d e f g : Addr × Obj} {r : List (Addr × Obj)} (N : News h₀ L h (a :: b :: c :: d :: e :: f :: g :: r)) : News h₀ L h r := fun p hp => N p (by simp [hp])
theorem SetL.apart {prog : Program} {w : World} {g : Heap} {S x dx IG : Addr} {M : Str → Bool} {n : Nat} (h : SetL prog w g S M n) (hx : g.get? x = some (instObj 79 dx)) (hI : g.get? IG = none) (hd : S ≠ dx) : S ∉ [IG, x, dx] := by
  obtain ⟨o, es, ep, t, ho, hex, _⟩ := h
  refine notin3 (fun e => ?_) (fun e => ?_) hd
  · rw [e, hI] at ho; cases ho
  · rw [e, hx] at ho; cases ho; exact absurd hex.1 (by intro h; cases h)
theorem list_apart {g : Heap} {S x dx IG : Addr} {its : Array Value} (h : g.IsList S its) (hx : g.get? x = some (instObj 79 dx)) (hI : g.get? IG = none) (hd : S ≠ dx) : S ∉ [IG, x, dx] := by
  obtain ⟨o, ho, hc, _⟩ := h
  refine notin3 (fun e => ?_) (fun e => ?_) hd
  · rw [e, hI] at ho; cases ho
  · rw [e, hx] at ho; cases ho; exact absurd hc (by intro h; cases h)
theorem SetL.keeps {prog : Program} {w : World} {g h : Heap} {S : Addr} {M : Str → Bool} {n : Nat} (x : SetL prog w g S M n) (k : Keep g h) : SetL prog w h S M n := by
  obtain ⟨o, es, ep, t, ho, r⟩ := x; exact ⟨o, es, ep, t, k _ _ ho, r⟩
theorem drop3 {h₀ h : Heap} {L : Addr} {a b c : Addr × Obj} {r : List (Addr × Obj)} (N : News h₀ L h (a :: b :: c :: r)) : News h₀ L h r := fun p hp => N p (by simp [hp])
theorem isListOf {h₀ h : Heap} {L a : Addr} {its : Array Value} {n : Nat} {r : List (Addr × Obj)} (N : News h₀ L h r) (hm : (a, listOf its n) ∈ r) : h.IsList a its := ⟨_, (N _ hm).1, rfl, _, rfl⟩
theorem isTupOf {h₀ h : Heap} {L a : Addr} {its : Array Value} {r : List (Addr × Obj)} (N : News h₀ L h r) (hm : (a, tupOf its) ∈ r) : IsTup h a its := ⟨_, (N _ hm).1, rfl, _, rfl⟩
section
variable {HC SP AN A0 A1 A2 A3 : Addr} {IG : Nat → Addr} {oc : Obj} {vals : List Value} {nd : Nat} {io : Nat → Obj} {tps : List (Addr × Obj)} {ls : Nat → List Value} {ns : Nat → Nat} {k : Nat} {io' : Obj} {v : Value}
theorem repl_io (hII : ∀ j, j < 4 → j ≠ k → IG j ≠ IG k) (h1 : HC ≠ IG k) (h2 : SP ≠ IG k) (h3 : AN ≠ IG k) (h4 : ∀ j, j < 4 → four A0 A1 A2 A3 j ≠ IG k) (ht : ∀ p ∈ tps, p.1 ≠ IG k) :
    ∀ p ∈ toldL HC SP AN A0 A1 A2 A3 IG oc vals (ls 0) (ls 1) (ls 2) (ls 3) nd (ns 0) (ns 1) (ns 2) (ns 3) (fun j => if j = k then io' else io j) tps,
      p = (IG k, io') ∨ (p ∈ toldL HC SP AN A0 A1 A2 A3 IG oc vals (ls 0) (ls 1) (ls 2) (ls 3) nd (ns 0) (ns 1) (ns 2) (ns 3) io tps ∧ p.1 ≠ IG k) := by
  have key : ∀ j, j < 4 → ∀ p : Addr × Obj, p = (IG j, if j = k then io' else io j) → p = (IG k, io') ∨ (p = (IG j, io j) ∧ p.1 ≠ IG k) := by
    intro j hj p e
    by_cases h : j = k
    · subst h; left; rw [e]; simp
    · right; rw [if_neg h] at e; subst e; exact ⟨rfl, hII j hj h⟩
  intro p hp
  simp only [toldL, List.mem_cons] at hp
  rcases hp with e | e | e | e | e | e | e | e | e | e | e | e
  · right; subst e; exact ⟨by simp, h1⟩
  · right; subst e; exact ⟨by simp, h2⟩
  · right; subst e; exact ⟨by simp, h3⟩
  · right; subst e; exact ⟨by simp, h4 0 (by decide)⟩
  · right; subst e; exact ⟨by simp, h4 1 (by decide)⟩
  · right; subst e; exact ⟨by simp, h4 2 (by decide)⟩
  · right; subst e; exact ⟨by simp, h4 3 (by decide)⟩
  · rcases key 0 (by decide) p e with h | ⟨h, h'⟩; exact .inl h; exact .inr ⟨by simp [h], h'⟩
  · rcases key 1 (by decide) p e with h | ⟨h, h'⟩; exact .inl h; exact .inr ⟨by simp [h], h'⟩
  · rcases key 2 (by decide) p e with h | ⟨h, h'⟩; exact .inl h; exact .inr ⟨by simp [h], h'⟩
  · rcases key 3 (by decide) p e with h | ⟨h, h'⟩; exact .inl h; exact .inr ⟨by simp [h], h'⟩
  · exact .inr ⟨by simp [e], ht p e⟩
theorem repl_ls (hAA : ∀ j, j < 4 → j ≠ k → four A0 A1 A2 A3 j ≠ four A0 A1 A2 A3 k) (h1 : HC ≠ four A0 A1 A2 A3 k) (h2 : SP ≠ four A0 A1 A2 A3 k) (h3 : AN ≠ four A0 A1 A2 A3 k) (h4 : ∀ j, j < 4 → IG j ≠ four A0 A1 A2 A3 k) (ht : ∀ p ∈ tps, p.1 ≠ four A0 A1 A2 A3 k) {ls' : Nat → List Value} {ns' : Nat → Nat} (hl : ls' = fun j => if j = k then ls k ++ [v] else ls j) (hn : ns' = fun j => if j = k then ns k + 1 else ns j) :
    ∀ p ∈ toldL HC SP AN A0 A1 A2 A3 IG oc vals (ls' 0) (ls' 1) (ls' 2) (ls' 3) nd (ns' 0) (ns' 1) (ns' 2) (ns' 3) io tps,
      p = (four A0 A1 A2 A3 k, listOf (ls k ++ [v]).toArray (ns k + 1)) ∨ (p ∈ toldL HC SP AN A0 A1 A2 A3 IG oc vals (ls 0) (ls 1) (ls 2) (ls 3) nd (ns 0) (ns 1) (ns 2) (ns 3) io tps ∧ p.1 ≠ four A0 A1 A2 A3 k) := by
  have key : ∀ j, j < 4 → ∀ p : Addr × Obj, p = (four A0 A1 A2 A3 j, listOf (ls' j).toArray (ns' j)) → p = (four A0 A1 A2 A3 k, listOf (ls k ++ [v]).toArray (ns k + 1)) ∨ (p = (four A0 A1 A2 A3 j, listOf (ls j).toArray (ns j)) ∧ p.1 ≠ four A0 A1 A2 A3 k) := by
    intro j hj p e
    subst hl hn
    dsimp only at e
    by_cases h : j = k
    · subst h; left; rw [e]; simp
    · right; rw [if_neg h, if_neg h] at e; subst e; exact ⟨rfl, hAA j hj h⟩
  intro p hp
  simp only [toldL, List.mem_cons] at hp
  rcases hp with e | e | e | e | e | e | e | e | e | e | e | e
  · right; subst e; exact ⟨by simp, h1⟩
  · right; subst e; exact ⟨by simp, h2⟩
  · right; subst e; exact ⟨by simp, h3⟩
  · rcases key 0 (by decide) p e with h | ⟨h, h'⟩; exact .inl h; exact .inr ⟨by rw [h]; exact .tail _ (.tail _ (.tail _ (.head _))), h'⟩
  · rcases key 1 (by decide) p e with h | ⟨h, h'⟩; exact .inl h; exact .inr ⟨by rw [h]; exact .tail _ (.tail _ (.tail _ (.tail _ (.head _)))), h'⟩
  · rcases key 2 (by decide) p e with h | ⟨h, h'⟩; exact .inl h; exact .inr ⟨by rw [h]; exact .tail _ (.tail _ (.tail _ (.tail _ (.tail _ (.head _))))), h'⟩
  · rcases key 3 (by decide) p e with h | ⟨h, h'⟩; exact .inl h; exact .inr ⟨by rw [h]; exact .tail _ (.tail _ (.tail _ (.tail _ (.tail _ (.tail _ (.head _)))))), h'⟩
  · right; subst e; exact ⟨by simp, h4 0 (by decide)⟩
  · right; subst e; exact ⟨by simp, h4 1 (by decide)⟩
  · right; subst e; exact ⟨by simp, h4 2 (by decide)⟩
  · right; subst e; exact ⟨by simp, h4 3 (by decide)⟩
  · exact .inr ⟨by simp [e], ht p e⟩
end
theorem News.none {h₀ h : Heap} {L : Addr} : News h₀ L h [] := fun _ hp => nomatch hp
theorem News.also {h₀ h : Heap} {L : Addr} {a : Addr × Obj} {r : List (Addr × Obj)} (ha : h.get? a.1 = some a.2 ∧ a.1 ≠ L ∧ h₀.get? a.1 = Option.none) (N : News h₀ L h r) : News h₀ L h (a :: r) := fun p hp => by
  rcases List.mem_cons.mp hp with e | hp
  · exact e ▸ ha
  · exact N p hp
theorem memFour {A0 A1 A2 A3 : Addr} {ls : Nat → List Value} {ns : Nat → Nat} {r : List (Addr × Obj)} {k : Nat} (hk : k < 4) : (four A0 A1 A2 A3 k, listOf (ls k).toArray (ns k)) ∈ (A0, listOf (ls 0).toArray (ns 0)) :: (A1, listOf (ls 1).toArray (ns 1)) :: (A2, listOf (ls 2).toArray (ns 2)) :: (A3, listOf (ls 3).toArray (ns 3)) :: r :=
  lt4 (P := fun k => (four A0 A1 A2 A3 k, listOf (ls k).toArray (ns k)) ∈ (A0, listOf (ls 0).toArray (ns 0)) :: (A1, listOf (ls 1).toArray (ns 1)) :: (A2, listOf (ls 2).toArray (ns 2)) :: (A3, listOf (ls 3).toArray (ns 3)) :: r) (.head _) (.tail _ (.head _)) (.tail _ (.tail _ (.head _))) (.tail _ (.tail _ (.tail _ (.head _)))) k hk
theorem stepState {w : World} {ml dl : Nat → List Str} {f : Nat → Str → Option Bool} {qs : List (Value × Value)} {ls : Nat → List Value} {io : Nat → Obj} {kv : Nat → List (Str × Value)} {i k : Nat} {io9 : Obj} {kv9 : List (Str × Value)} {t : Tok}
    (h : ∀ j, j < 4 → StateAt w (ml j) (dl j) (f j) qs j (if j < k then i + 1 else i) (ls j) (io j) (kv j)) (hk : k < 4) (hd9 : io9.IsDictOf (PySem.strKind PG w) kv9) (hm9 : MemoIs kv9 (memoF (ml k) (dl k) (qn qs k) (qf qs k) (f k) (i + 1))) (hl9 : kv9.length ≤ (kv k).length + 1) :
    ∀ j, j < 4 → StateAt w (ml j) (dl j) (f j) qs j (if j < k + 1 then i + 1 else i) ((fun j => if j = k then ls k ++ [.str (ansS (ansF (ml k) (dl k) (qn qs k) (qf qs k) (f k) i)) t] else ls j) j) ((fun j => if j = k then io9 else io j) j) ((fun j => if j = k then kv9 else kv j) j) := by
  intro j hj
  dsimp only
  by_cases e : j = k
  · subst e
    have := h j hj
    simp only [Nat.lt_irrefl, if_false] at this
    simp only [if_true, Nat.lt_succ_self]
    refine ⟨hd9, hm9, by have := this.len; omega, by simp [this.ll], fun p hp => ?_⟩
    by_cases e2 : p < i
    · obtain ⟨t', ht'⟩ := this.ans p e2
      exact ⟨t', by rw [List.getElem?_append_left (by rw [this.ll]; exact e2)]; exact ht'⟩
    · have e3 : p = i := by omega
      subst e3
      exact ⟨t, by rw [List.getElem?_append_right (by rw [this.ll]; exact Nat.le_refl _), this.ll]; simp⟩
  · have h1 := h j hj
    have h2 : (if j < k + 1 then i + 1 else i) = if j < k then i + 1 else i := by
      by_cases h3 : j < k
      · rw [if_pos h3, if_pos (by omega)]
      · rw [if_neg h3, if_neg (by omega)]
    rw [h2, if_neg e, if_neg e, if_neg e]
    exact h1
theorem toS (b : Bool) : Str.ofString (toString (if b = true then (1 : Int) else 0)) = ansS b := by cases b <;> rfl
theorem samebut_keep {h h' : Heap} {a : Addr} (hs : Heap.SameBut a h h') : KeepBut h h' [a] := fun b o hb e => (hs.2 b (by simpa using hb)).trans e
theorem ig_told {HC SP AN A0 A1 A2 A3 : Addr} {IG : Nat → Addr} {k : Nat} (hk : k < 4) : IG k ∈ toldA HC SP AN A0 A1 A2 A3 IG :=
  lt4 (P := fun k => IG k ∈ toldA HC SP AN A0 A1 A2 A3 IG) (.tail _ (.tail _ (.tail _ (.tail _ (.tail _ (.tail _ (.tail _ (.head _)))))))) (.tail _ (.tail _ (.tail _ (.tail _ (.tail _ (.tail _ (.tail _ (.tail _ (.head _))))))))) (.tail _ (.tail _ (.tail _ (.tail _ (.tail _ (.tail _ (.tail _ (.tail _ (.tail _ (.head _)))))))))) (.tail _ (.tail _ (.tail _ (.tail _ (.tail _ (.tail _ (.tail _ (.tail _ (.tail _ (.tail _ (.head _))))))))))) k hk
theorem four_told {HC SP AN A0 A1 A2 A3 : Addr} {IG : Nat → Addr} {k : Nat} (hk : k < 4) : four A0 A1 A2 A3 k ∈ toldA HC SP AN A0 A1 A2 A3 IG :=
  lt4 (P := fun k => four A0 A1 A2 A3 k ∈ toldA HC SP AN A0 A1 A2 A3 IG) (.tail _ (.tail _ (.tail _ (.head _)))) (.tail _ (.tail _ (.tail _ (.tail _ (.head _))))) (.tail _ (.tail _ (.tail _ (.tail _ (.tail _ (.head _)))))) (.tail _ (.tail _ (.tail _ (.tail _ (.tail _ (.tail _ (.head _))))))) k hk
/-- the reader's things as the telling sees them -/
structure ReaderG (w : World) (g : Heap) (x dx S DL IG : Addr) (ml dl : List Str) : Prop where
  gx : g.get? x = some (instObj 79 dx)
  gdx : ∃ t1 t2 t3, g.get? dx = some (rdD w S DL IG t1 t2 t3)
  gS : ∃ M n, SetL PG w g S M n ∧ ∀ k, M k = true ↔ k ∈ ml
  gD : ∃ dv : List Value, g.IsList DL dv.toArray ∧ dv.length = dl.length ∧ ∀ j, j < dl.length → ∃ t, dv[j]? = some (.str (dl.getD j (Str.ofString "")) t)
  gI : g.get? IG = none
theorem Reader.g {w : World} {h₀ h g : Heap} {x dx S DL IG : Addr} {io : Obj} {kvs : List (Str × Value)} {f : Str → Option Bool} {ml dl : List Str} {ch : List Addr} (R : Reader w h₀ h x dx S DL IG io kvs f ml dl) (hg : ∀ b o, b ∉ ch → h.get? b = some o → g.get? b = some o)
    (hnot : ∀ (b : Addr) o, h.get? b = some o → o.cls ≠ .type "dict" → b ∉ ch) (hdx : dx ∉ ch) (hI : g.get? IG = none) : ReaderG w g x dx S DL IG ml dl := by
  refine ⟨hg _ _ (hnot _ _ R.gx (by intro h; cases h)) R.gx, ?_, ?_, ?_, hI⟩
  · obtain ⟨t1, t2, t3, e⟩ := R.gdx
    exact ⟨t1, t2, t3, hg _ _ hdx e⟩
  · obtain ⟨M, n, ⟨o, es, ep, t, ho, hex, r⟩, hm⟩ := R.gS
    exact ⟨M, n, ⟨o, es, ep, t, hg _ _ (hnot _ _ ho (by rw [hex.1]; decide)) ho, hex, r⟩, hm⟩
  · obtain ⟨dv, ⟨o, ho, hc, r⟩, h2, h3⟩ := R.gD
    exact ⟨dv, ⟨o, hg _ _ (hnot _ _ ho (by rw [hc]; decide)) ho, hc, r⟩, h2, h3⟩
section
variable {w : World} {dp un : Nat} {fr : Option (List Env)} {gd : Option (List Code)} {Q E : Value → Shared → Prop} {s : Shared} {mean : ExcName → Option Value} {mg mb : Str → Option Value} {A : Around} {b : Array UInt8} {t u : Tok} {R : Result → Shared → Prop} {h₀ : Heap}
local macro_rules | `(tactic| walk_at "mine_item") => `(tactic| (k_here; (with_reducible show wpAny _ _ (subscriptTail _ _ (Value.ref _) (Value.int _ _)) _ _ _); (with_reducible rename Fr _ _ _ _ => kF'); (with_reducible rename News _ _ _ _ => kN'); first | (refine' item_at (keepL kF'.keep ?kl) ?kv ?kz ?_ ?ks; (case kl => with_reducible assumption); (case kv => with_reducible assumption); (case kz => with_reducible assumption); (case ks => with_unfolding_all rfl); (try dsimp only)) | (refine' item_at (isListOf (drop11 kN') ?kl) ?kv ?kz ?_ ?ks; (case kl => with_reducible assumption); (case kv => with_reducible assumption); (case kz => with_reducible assumption); (case ks => with_unfolding_all rfl); (try dsimp only)) | (refine' item_at (isListOf kN' ?kl) ?kv ?kz ?_ ?ks; (case kl => first | exact List.Mem.tail _ (List.Mem.head _) | exact List.Mem.tail _ (List.Mem.tail _ (List.Mem.head _))); (case kv => with_reducible assumption); (case kz => with_reducible assumption); (case ks => with_unfolding_all rfl); (try dsimp only))))
local macro_rules | `(tactic| walk_at "mine_forT") => `(tactic| (k_here; (with_reducible rename Fr _ _ _ _ => lF'); (with_unfolding_all refine' For_T lF' ?_; k_whole)))
local macro_rules | `(tactic| walk_at "pyIter ref") => `(tactic| refine stopHere ?_)
local macro_rules | `(tactic| walk_at "exec For") => `(tactic| walk_at "mine_forT")
local macro_rules | `(tactic| walk_at "exec For Name Call cons nil") => `(tactic| walk_at "mine_forT")
local macro_rules | `(tactic| walk_at "eval ListComp") => `(tactic| (walk_at "mine_lc"))
local macro_rules | `(tactic| walk_at "eval Name") => `(tactic| (walk_at "mine_name"))
local macro_rules | `(tactic| walk_at "call builtin:list.append") => `(tactic| refine stopHere ?_)
local macro_rules | `(tactic| walk_at "call ref") => `(tactic| (k_here; (with_reducible rename Fr _ _ _ _ => kF'); k_dflt (first | (refine' spelled_spec ?kh (Frag.In.keeps ?kX kF'.keep) (Top.keeps ?kT kF'.keep) ?kd ?kb ?kl ?_; (case kh => assumption); (case kb => assumption); (case kl => omega); (walk_at "mine_ctx"); intro t' h' tk' hk'; (walk_at "mine_kept")) | (refine' spelled_none (Frag.In.keeps ?kX kF'.keep) (Top.keeps ?kT kF'.keep) ?kd ?_; (walk_at "mine_ctx"); intro h' tk' hk'; (walk_at "mine_kept")) | refine stopHere ?_)))
local macro_rules | `(tactic| walk_at "storeName") => `(tactic| (k_here; k_dflt (refine' storeX_C ?F ?N ?c ?U ?d ?_ ?a ?b; (case a => rfl); (case b => rfl); (case F => k_asm); (case N => k_asm); (case c => rfl); (case U => with_reducible assumption); (case d => k_asm); k_whole; intro h' o' F' N' d'; (try dsimp only at N'); (try k_sweep))))
local macro_rules | `(tactic| walk_at "call builtin:len") => `(tactic| (walk_at "mine_len"))
local macro_rules | `(tactic| walk_at "getMethod ref") => `(tactic| (k_here; (with_reducible rename Fr _ _ _ _ => kF'); k_dflt (refine' method_inst kF' ?k2 (inst_of kF' ?ka ?kb) ?k4 ?k5 ?k6 ?k7 ?_; (case ka => with_reducible assumption); (case kb => with_reducible assumption); (case k2 => k_asm); (case k4 => k_is); (case k5 => k_is); (case k6 => k_is); (case k7 => k_get); k_whole)))
local macro_rules | `(tactic| walk_at "getMethod ref") => `(tactic| (k_here; (with_reducible show wpAny _ _ (getMethod (Value.ref (four _ _ _ _ _)) (PySem.Str.ofString "append") _) _ _ _); (with_reducible rename News _ _ _ _ => kN'); k_dflt (refine' listMethod_K (drop3 kN') ?m PySem.F.slot_list_append PySem.F.type_list_append ?_; (case m => with_reducible assumption); k_whole)))
local macro_rules | `(tactic| walk_at "assign Tuple") => `(tactic| (k_here; (with_reducible show wpAny _ _ (assign (Expr.Tuple _ _ _) _ (Value.ref _)) _ _ _); (with_reducible rename News _ _ _ _ => kN'); k_dflt (refine' unpackN_ ?F kN' (isTupOf (drop11 kN') ?T) ?k1 ?k2 ?k3 ?_; (case F => k_asm); (case T => with_reducible assumption); (case k1 => exact rfl); (case k2 => exact rfl); (case k3 => exact rfl)); intro h' F' N'; (try k_sweep)))
local macro_rules | `(tactic| walk_at "subscriptTail") => `(tactic| walk_at "mine_item")
local macro_rules | `(tactic| walk_at "subscriptTail Name Name ref int") => `(tactic| walk_at "mine_item")
local macro_rules | `(tactic| walk_at "subscriptTail Subscript Name Name Name ref int") => `(tactic| walk_at "mine_item")
theorem told_spec {rd la : Addr} {x dx S DL IG : Nat → Addr} {io : Nat → Obj} {kvs : Nat → List (Str × Value)} {f : Nat → Str → Option Bool} {ml dl : Nat → List Str} {as : List Value} {ps : List (Value × Value)}
    (X : (hd.heap_1 w.params).In h₀) (T : TT mean mg mb h₀) (k₀ : Keep h₀ s.heap) (hr : ∀ k, k < 4 → Reader w h₀ s.heap (x k) (dx k) (S k) (DL k) (IG k) (io k) (kvs k) (f k) (ml k) (dl k))
    (hrd : s.heap.IsList rd #[.ref (x 0), .ref (x 1), .ref (x 2), .ref (x 3)]) (ha : s.heap.IsList la as.toArray) (hp : PairsAt s.heap as ps) (hrp : RowPairs ps) (hlen : ps.length ≤ 13)
    (hkl : ∀ k, k < 4 → (kvs k).length ≤ 10) (hII : ∀ j k, j < 4 → k < 4 → j ≠ k → IG j ≠ IG k) (hdI : ∀ j k, j < 4 → k < 4 → dx j ≠ IG k) (hd : dp < 900)
    (hQ : ∀ AN A0 A1 A2 A3 (ls : Nat → List Value) (ns : Nat → Nat) h' tk d, KeepBut s.heap h' [IG 0, IG 1, IG 2, IG 3] → h'.get? AN = some (listOf #[.ref A0, .ref A1, .ref A2, .ref A3] 0) →
      (∀ k, k < 4 → h'.get? (four A0 A1 A2 A3 k) = some (listOf (ls k).toArray (ns k)) ∧ (ls k).length = 2 * ps.length ∧ ∀ p, p < 2 * ps.length → ∃ t, (ls k)[p]? = some (.str (ansS (ansF (ml k) (dl k) (qn (ps ++ turned ps) k) (qf (ps ++ turned ps) k) (f k) p)) t)) → Q (.ref AN) { s with heap := h', toks := tk, drawn := d }) :
    wpAny (model PG w) (AA dp un fr gd) (call (.ref 180) [.ref rd, .ref la]) Q E s := by
  refine wpAny_call ?_
  refine' code_mutC (ch := [IG 0, IG 1, IG 2, IG 3]) (ents := [(IG 0, io 0), (IG 1, io 1), (IG 2, io 2), (IG 3, io 3)]) (binds := [(Str.ofString "readers", .ref rd), (Str.ofString "once", .ref la)]) X T k₀ ?hm ?he ?k6 ?k7 ?k8 ?k9 ?kB ?kD ?_ ?c2 ?c3 ?c4
  case hm => intro a ha; simp only [List.mem_cons, List.not_mem_nil, or_false] at ha; rcases ha with rfl | rfl | rfl | rfl; exact (hr 0 (by decide)).nig; exact (hr 1 (by decide)).nig; exact (hr 2 (by decide)).nig; exact (hr 3 (by decide)).nig
  case he => intro p hp; simp only [List.mem_cons, List.not_mem_nil, or_false] at hp; rcases hp with rfl | rfl | rfl | rfl; exact ⟨(hr 0 (by decide)).gig, by simp⟩; exact ⟨(hr 1 (by decide)).gig, by simp⟩; exact ⟨(hr 2 (by decide)).gig, by simp⟩; exact ⟨(hr 3 (by decide)).gig, by simp⟩
  case k6 => k_is
  case k7 => k_is
  case k8 => exact Nat.lt_trans hd (by decide)
  case k9 => have X' := X.keeps k₀; first | exact BindsTo.of_eq rfl | exact binds_K X' rfl (by k_is) rfl rfl rfl
  case kB => exact rfl
  case kD => decide +kernel
  case c2 => exact rfl
  case c3 => exact rfl
  case c4 => exact rfl
  intro g L h₁ tk cells hg X1 T1 F1 N1 Y1 hLt
  have hcl : ∀ k, k < 4 → (io k).cls = .type "dict" := fun k hk => isDict_cls (hr k hk).isd
  have hnot : ∀ (b : Addr) o, s.heap.get? b = some o → o.cls ≠ .type "dict" → b ∉ [IG 0, IG 1, IG 2, IG 3] := by
    intro b o e hc hb
    simp only [List.mem_cons, List.not_mem_nil, or_false] at hb
    rcases hb with rfl | rfl | rfl | rfl
    · rw [(hr 0 (by decide)).gig] at e; cases e; exact hc (hcl 0 (by decide))
    · rw [(hr 1 (by decide)).gig] at e; cases e; exact hc (hcl 1 (by decide))
    · rw [(hr 2 (by decide)).gig] at e; cases e; exact hc (hcl 2 (by decide))
    · rw [(hr 3 (by decide)).gig] at e; cases e; exact hc (hcl 3 (by decide))
  have hga : g.IsList la as.toArray := ha.at fun o e => hg la o (hnot la o e (by obtain ⟨o', ho', hc', _⟩ := id ha; rw [ho'] at e; cases e; rw [hc']; decide)) e
  have hgr : g.IsList rd #[.ref (x 0), .ref (x 1), .ref (x 2), .ref (x 3)] := hrd.at fun o e => hg rd o (hnot rd o e (by obtain ⟨o', ho', hc', _⟩ := id hrd; rw [ho'] at e; cases e; rw [hc']; decide)) e
  have hgp : PairsAt g as ps := ⟨hp.1, fun i x y e => by
    obtain ⟨T, a, b⟩ := hp.2 i x y e
    exact ⟨T, a, b.at fun o e => hg T o (hnot T o e (by obtain ⟨o', ho', hc', _⟩ := id b; rw [ho'] at e; cases e; rw [hc']; decide)) e⟩⟩
  have hI0 : @LT.lt Nat _ (IG 0) L := hLt _ (.head _)
  have hI1 : @LT.lt Nat _ (IG 1) L := hLt _ (.tail _ (.head _))
  have hI2 : @LT.lt Nat _ (IG 2) L := hLt _ (.tail _ (.tail _ (.head _)))
  have hI3 : @LT.lt Nat _ (IG 3) L := hLt _ (.tail _ (.tail _ (.tail _ (.head _))))
  have hgn : ∀ k, k < 4 → g.get? (IG k) = none := lt4 (N1 _ (List.mem_append.mpr (.inr (.head _)))).2.2 (N1 _ (List.mem_append.mpr (.inr (.tail _ (.head _))))).2.2 (N1 _ (List.mem_append.mpr (.inr (.tail _ (.tail _ (.head _)))))).2.2 (N1 _ (List.mem_append.mpr (.inr (.tail _ (.tail _ (.tail _ (.head _))))))).2.2
  have hRG : ∀ k, k < 4 → ReaderG w g (x k) (dx k) (S k) (DL k) (IG k) (ml k) (dl k) := fun k hk => Reader.g (hr k hk) hg hnot (by
    simp only [List.mem_cons, List.not_mem_nil, or_false, not_or]
    exact ⟨hdI k 0 hk (by decide), hdI k 1 hk (by decide), hdI k 2 hk (by decide), hdI k 3 hk (by decide)⟩) (hgn k hk)
  have hkg : Keep h₀ g := fun b o e => hg b o (fun hb => by
    simp only [List.mem_cons, List.not_mem_nil, or_false] at hb
    rcases hb with rfl | rfl | rfl | rfl
    · rw [(hr 0 (by decide)).nig] at e; cases e
    · rw [(hr 1 (by decide)).nig] at e; cases e
    · rw [(hr 2 (by decide)).nig] at e; cases e
    · rw [(hr 3 (by decide)).nig] at e; cases e) (k₀ b o e)
  k_cells Y1
  (try simp only [List.cons_append, List.nil_append] at N1)
  (try dsimp only)
  k_steps
  all_goals (try dsimp only)
  rename_i oc d1 SP hS l1a A0 hA0 l1b A1 hA1 l1c A2 hA2 l1d A3 hA3 l1e AN hAN l1f TP hTP l1g h3 h2 h1 F' N' h' tk' tr1 ur1 vr1 hR2 F2 N2 hk2
  clear F' N' hk2
  unfold Stop
  have N3 : News g L h' (toldL (L + 1) SP AN A0 A1 A2 A3 IG oc [] [] [] [] [] 0 0 0 0 0 io []) := by
    dsimp only [toldL]
    repeat' (first | exact News.none | refine News.also (N2 _ (by k_mem)) ?_)
  clear N2
  have hUpd : ∀ (oc : Obj) (vals l0 l1 l2 l3 : List Value) (nd n0 n1 n2 n3 : Nat) (io : Nat → Obj) (tps : List (Addr × Obj)), OwnOff tps (toldA (L + 1) SP AN A0 A1 A2 A3 IG) → UpdF (L + 1) oc (toldL (L + 1) SP AN A0 A1 A2 A3 IG oc vals l0 l1 l2 l3 nd n0 n1 n2 n3 io tps) (fun o' => toldL (L + 1) SP AN A0 A1 A2 A3 IG o' vals l0 l1 l2 l3 nd n0 n1 n2 n3 io tps) := by
    intro oc vals l0 l1 l2 l3 nd n0 n1 n2 n3 io tps hoff
    refine UpdF.head fun p hp => ?_
    simp only [List.mem_cons] at hp
    rcases hp with rfl | rfl | rfl | rfl | rfl | rfl | rfl | rfl | rfl | rfl | hp
    all_goals first | exact hoff p hp _ (.head _) | (refine neN ?_; (try dsimp only); omega)
  have hUpS : ∀ (oc : Obj) (vals : List Value) (nd : Nat) (tps : List (Addr × Obj)) {v : Value}, OwnOff tps (toldA (L + 1) SP AN A0 A1 A2 A3 IG) → Upd SP (listOf vals.toArray nd) (listOf (vals.toArray.push v) (nd + 1)) (toldL (L + 1) SP AN A0 A1 A2 A3 IG oc vals [] [] [] [] nd 0 0 0 0 io tps) ((L + 1, oc) :: (SP, listOf (vals.toArray.push v) (nd + 1)) :: (AN, listOf #[.ref A0, .ref A1, .ref A2, .ref A3] 0) :: (A0, listOf #[] 0) :: (A1, listOf #[] 0) :: (A2, listOf #[] 0) :: (A3, listOf #[] 0) :: (IG 0, io 0) :: (IG 1, io 1) :: (IG 2, io 2) :: (IG 3, io 3) :: tps) := by
    intro oc vals nd tps v hoff
    refine Upd.tail (neN (by (try dsimp only); omega)) (Upd.head fun p hp => ?_)
    simp only [List.mem_cons] at hp
    rcases hp with rfl | rfl | rfl | rfl | rfl | rfl | rfl | rfl | rfl | hp
    all_goals first | exact hoff p hp _ (.tail _ (.head _)) | (refine neN ?_; (try dsimp only); omega)
  have hApart : ∀ k, k < 4 → (L + 1 ≠ four A0 A1 A2 A3 k ∧ SP ≠ four A0 A1 A2 A3 k ∧ AN ≠ four A0 A1 A2 A3 k) ∧ ((∀ j, j < 4 → j ≠ k → four A0 A1 A2 A3 j ≠ four A0 A1 A2 A3 k) ∧ ∀ j, j < 4 → IG j ≠ four A0 A1 A2 A3 k) := by
    refine lt4 ?_ ?_ ?_ ?_
    all_goals
      refine ⟨⟨?_, ?_, ?_⟩, lt4 ?_ ?_ ?_ ?_, lt4 ?_ ?_ ?_ ?_⟩
      all_goals (dsimp only [four]; simp only [ne_eq, not_true_eq_false, false_implies, Nat.reduceEqDiff, if_true, if_false]; try (first | (intro h; exact absurd h (neN (by omega))) | (intro _ h; exact absurd h (neN (by omega)))))
  have hApI : ∀ k, k < 4 → L + 1 ≠ IG k ∧ SP ≠ IG k ∧ AN ≠ IG k ∧ IG k ≠ L := by
    refine lt4 ?_ ?_ ?_ ?_
    all_goals (refine ⟨neN ?_, neN ?_, neN ?_, neN ?_⟩ <;> omega)
  clear l1a l1b l1c l1d l1e l1f l1g
  refine for_rangeT (n := 4) [] (ToldJ1 (L + 1) SP AN A0 A1 A2 A3 IG io (ps ++ turned ps)) rfl hR2 (by decide) F2 N3 ⟨oc, _, [], 0, [], rfl, d1, fun p hp => (nomatch hp), rfl, fun k hk => absurd hk (by omega)⟩ ?_ ?_
  · rintro i ti u9 nx s9 own hgo hi4 hoff hko ⟨oc9, v9, vals, nd, tps, rfl, hoc, htf, hsp⟩ F4 N4
    obtain ⟨rst, hrst⟩ : ∃ r, tps ++ own = r := ⟨_, rfl⟩
    have hro : OwnOff rst (toldA (L + 1) SP AN A0 A1 A2 A3 IG) := by
      rw [← hrst]
      intro p hp b hb
      rcases List.mem_append.mp hp with hp | hp
      · exact htf p hp b hb
      · exact hoff p hp b (adr_told b hb)
    simp only [toldL, List.cons_append] at N4
    rw [hrst] at N4
    clear F2 N3
    have hU9 := hUpd oc9 vals [] [] [] [] nd 0 0 0 0 io rst hro
    simp only [toldL] at hU9
    have hhi : ((i : Nat) : Int) = 0 ∨ ((i : Nat) : Int) = 1 ∨ ((i : Nat) : Int) = 2 ∨ ((i : Nat) : Int) = 3 := by omega
    k_steps
    all_goals (try dsimp only)
    unfold Stop
    (with_reducible rename Fr _ _ _ _ => F5)
    (with_reducible rename News _ _ _ _ => N5)
    rename Obj.data _ = Data.cell (some _) => hoc5
    have hp5 := PairsAt.keeps F5.keep hgp
    refine src_list2 (fun j y fp => ∃ T x0 y0 t fv, ps[j]? = some (x0, y0) ∧ y = .ref T ∧ fp = [(T, tupOf #[.str (spell i (rowOf x0)) t, fv])] ∧ FileIs fv ((fileOf y0).map (spell i))) rfl (keepL F5.keep hga) (by rw [sizeLine_eq, hp.1]; omega) (by intro b hb; cases hb) rfl rfl rfl ?_ ?_ ?_
    · intro v hv
      obtain ⟨j, hj⟩ := List.mem_iff_getElem?.mp hv
      have hlt := (List.getElem?_eq_some_iff.mp hj).1
      obtain ⟨T, e1, e2⟩ := hp5.2 j _ _ (List.getElem?_eq_getElem (by rw [← hp.1]; exact hlt))
      rw [hj] at e1; cases e1
      exact ⟨T, _, _, rfl, e2⟩
    · intro j T' x0 y0 C h tk m own' E' hv hT FC NC
      have hpi := hp5.back hv hT
      obtain ⟨⟨b9, t9, e9, l9⟩, hfi⟩ := hrp (x0, y0) (List.mem_of_getElem? hpi)
      dsimp only at e9 hfi
      subst e9
      obtain ⟨r9, hr9⟩ : ∃ r, KBw.bInts b9 = r := ⟨_, rfl⟩
      have hr9' : rowOf (.bytes b9 t9) = r9 := hr9
      rw [hr9] at l9
      have X' := X1.keeps F5.keep
      have T'' := Top.keeps T1 F5.keep
      rcases hfi with rfl | ⟨c9, u9, rfl, k9⟩
      · k_steps
        all_goals (try dsimp only)
        exact ElF.one (by assumption) (by assumption) (fun q hq => Nat.ne_of_lt ((by assumption : ∀ p ∈ own', p.1 < _) q hq)) ⟨_, _, _, _, _, hpi, rfl, by rw [hr9'], rfl⟩
      · obtain ⟨q9, hq9⟩ : ∃ r, KBw.bInts c9 = r := ⟨_, rfl⟩
        have hq9' : fileOf (.bytes c9 u9) = some q9 := by rw [← hq9]; rfl
        rw [hq9] at k9
        k_steps
        all_goals (try dsimp only)
        exact ElF.one (by assumption) (by assumption) (fun q hq => Nat.ne_of_lt ((by assumption : ∀ p ∈ own', p.1 < _) q hq)) ⟨_, _, _, _, _, hpi, rfl, by rw [hr9'], by rw [hq9']; exact ⟨_, rfl⟩⟩
    · intro D h6 tk6 ys fps hD hpl hy hf hG hF hPw hk
      dsimp only
      have hk' : Keep _ h6 := fun b o e => hk b o (by simp) e
      have F6 := Fr.keptAll F5 hk'
      have N6 := News.grown N5 hk'
      have hyl : ys.size = ps.length := by rw [hy, hp.1]
      obtain ⟨q0, hq0l, hq0⟩ := list_choice (P := fun j (pr : Value × Value) => ∃ T x0 y0 t fv, ys[j]? = some (.ref T) ∧ fps[j]? = some [(T, tupOf #[.str (spell i (rowOf x0)) t, fv])] ∧ ps[j]? = some (x0, y0) ∧ pr = (.str (spell i (rowOf x0)) t, fv) ∧ FileIs fv ((fileOf y0).map (spell i))) ps.length (fun j hj => by
        obtain ⟨y, fp, e1, e2, T, x0, y0, t, fv, g1, rfl, rfl, g4⟩ := comp_all hy hf hG j (by rw [hp.1]; exact hj)
        exact ⟨_, T, x0, y0, t, fv, e1, e2, g1, rfl, g4⟩)
      have hSp : SpP i ps q0 := ⟨hq0l, fun j x0 y0 e => by
        obtain ⟨pr, g0, T, x1, y1, t, fv, g1, g2, g3, rfl, g5⟩ := hq0 j (List.getElem?_eq_some_iff.mp e).1
        rw [e] at g3; cases g3
        exact ⟨t, fv, g0, g5⟩⟩
      have hPL : PairsL fps.flatten ys.toList q0 := ⟨by simp [hyl, hq0l], fun j x0 y0 e => by
        obtain ⟨pr, g0, T, x1, y1, t, fv, g1, g2, g3, rfl, g5⟩ := hq0 j (by have := (List.getElem?_eq_some_iff.mp e).1; omega)
        rw [e] at g0; cases g0
        exact ⟨T, by simpa using g1, List.mem_flatten.mpr ⟨_, List.mem_of_getElem? g2, List.mem_singleton.mpr rfl⟩⟩⟩
      obtain ⟨nu, hDg⟩ := hpl
      have hE2 : ∀ p ∈ (D, listOf ys nu) :: fps.flatten, h6.get? p.1 = some p.2 ∧ (_ : Heap).get? p.1 = none := fun p hp => by
        rcases List.mem_cons.mp hp with rfl | hp
        · exact ⟨hDg, hD⟩
        · obtain ⟨f, hf, hpf⟩ := List.mem_flatten.mp hp
          obtain ⟨a1, _, a3⟩ := hF f hf p hpf
          exact ⟨a3, a1⟩
      have hoffD : OwnOff ((D, listOf ys nu) :: fps.flatten) _ := off_fresh (fun p hp => (hE2 p hp).2) N5
      have N7 := News.more F5 N6 hE2
      obtain ⟨rst2, hrst2⟩ : ∃ r, rst ++ (D, listOf ys nu) :: fps.flatten = r := ⟨_, rfl⟩
      have hro2 : OwnOff rst2 (toldA (L + 1) SP AN A0 A1 A2 A3 IG) := by
        rw [← hrst2]
        exact OwnOff.app hro (OwnOff.sub hoffD adr_told)
      simp only [List.cons_append] at N7
      rw [hrst2] at N7
      have hmD : ∀ p ∈ (D, listOf ys nu) :: fps.flatten, p ∈ rst2 := fun p hp => by rw [← hrst2]; exact List.mem_append.mpr (.inr hp)
      have hL7 : h6.IsList D ys.toList.toArray := ⟨_, hDg, rfl, _, rfl⟩
      have hP7 : PairsAt h6 ys.toList q0 := PairsL.toAt (fun p hp => (hE2 p (.tail _ hp)).1) hPL
      clear N6 hk
      k_unmd
      k_steps
      all_goals (try dsimp only)
      unfold Stop
      (with_reducible rename Fr _ _ _ _ => F6)
      (with_reducible rename News _ _ _ _ => N7)
      refine twice_spec (X1.keeps F6.keep) (Top.keeps T1 F6.keep) (by dsimp only [AA, Around.deeper]; omega) hL7 hP7 (by omega) ?_
      intro D2 zs tps2 h7 tk7 hk7 he7 hpl2
      have F8 := Fr.keptAll F6 hk7
      have N8 := News.more F6 (News.grown N7 hk7) he7
      have hoff2 : OwnOff ((D2, listOf (ys.toList ++ zs).toArray 0) :: tps2) _ := off_fresh (fun p hp => (he7 p hp).2) N7
      obtain ⟨rst3, hrst3⟩ : ∃ r, rst2 ++ (D2, listOf (ys.toList ++ zs).toArray 0) :: tps2 = r := ⟨_, rfl⟩
      have hro3 : OwnOff rst3 (toldA (L + 1) SP AN A0 A1 A2 A3 IG) := by
        rw [← hrst3]
        exact OwnOff.app hro2 (OwnOff.sub hoff2 adr_told)
      simp only [List.cons_append] at N8
      rw [hrst3] at N8
      have hvl : vals.length = i := hsp.1
      clear N7 F6 N5 F5 N4 F4
      have hofft : OwnOff (tps ++ ((D, listOf ys nu) :: fps.flatten) ++ ((D2, listOf (ys.toList ++ zs).toArray 0) :: tps2)) (toldA (L + 1) SP AN A0 A1 A2 A3 IG) :=
        OwnOff.app (OwnOff.app htf (OwnOff.sub hoffD adr_told)) (OwnOff.sub hoff2 adr_told)
      have hoffo : OwnOff own ((tps ++ ((D, listOf ys nu) :: fps.flatten) ++ ((D2, listOf (ys.toList ++ zs).toArray 0) :: tps2)).map (·.1)) := by
        intro p hp b hb
        have hpr : p ∈ rst := by rw [← hrst]; exact List.mem_append.mpr (.inr hp)
        have hpr2 : p ∈ rst2 := by rw [← hrst2]; exact List.mem_append.mpr (.inl hpr)
        rw [List.map_append, List.map_append] at hb
        rcases List.mem_append.mp hb with hb | hb
        · rcases List.mem_append.mp hb with hb | hb
          · exact hoff p hp b (tadr_told hb)
          · obtain ⟨q, hq, rfl⟩ := List.mem_map.mp hb
            exact (hoffD q hq p.1 (List.mem_map.mpr ⟨p, by simp [hpr], rfl⟩)).symm
        · obtain ⟨q, hq, rfl⟩ := List.mem_map.mp hb
          exact (hoff2 q hq p.1 (List.mem_map.mpr ⟨p, by simp [hpr2], rfl⟩)).symm
      have hsub3 : ∀ p ∈ (tps ++ ((D, listOf ys nu) :: fps.flatten) ++ ((D2, listOf (ys.toList ++ zs).toArray 0) :: tps2)), p ∈ rst3 := by
        intro p hp
        rw [← hrst3, ← hrst2, ← hrst]
        rcases List.mem_append.mp hp with hp | hp
        · rcases List.mem_append.mp hp with hp | hp
          · exact List.mem_append.mpr (.inl (List.mem_append.mpr (.inl (List.mem_append.mpr (.inl hp)))))
          · exact List.mem_append.mpr (.inl (List.mem_append.mpr (.inr hp)))
        · exact List.mem_append.mpr (.inr hp)
      have howr : ∀ p ∈ own, p ∈ rst3 := by
        intro p hp
        rw [← hrst3, ← hrst2, ← hrst]
        exact List.mem_append.mpr (.inl (List.mem_append.mpr (.inl (List.mem_append.mpr (.inr hp)))))
      have hsp' : SpelledL (ps ++ turned ps) (vals ++ [.ref D2]) (tps ++ ((D, listOf ys nu) :: fps.flatten) ++ ((D2, listOf (ys.toList ++ zs).toArray 0) :: tps2)) (i + 1) := by
        refine ⟨by simp [hvl], fun k hk => ?_⟩
        by_cases e : k < i
        · obtain ⟨T, bs, q, g1, g2, g3, g4⟩ := hsp.2 k e
          exact ⟨T, bs, q, by rw [List.getElem?_append_left (by omega)]; exact g1, List.mem_append.mpr (.inl (List.mem_append.mpr (.inl g2))), g3.sub (fun p hp => List.mem_append.mpr (.inl (List.mem_append.mpr (.inl hp)))), g4⟩
        · have : k = i := by omega
          subst this
          exact ⟨D2, ys.toList ++ zs, q0 ++ turned q0, by rw [List.getElem?_append_right (by omega), hvl]; simp, List.mem_append.mpr (.inr (.head _)),
            PairsL.app (hPL.sub fun p hp => List.mem_append.mpr (.inl (List.mem_append.mpr (.inr (.tail _ hp))))) (hpl2.sub fun p hp => List.mem_append.mpr (.inr (.tail _ hp))), hSp.twice⟩
      clear hro hro2
      k_steps
      all_goals (try dsimp only)
      unfold Stop
      (with_reducible rename Fr _ _ _ _ => F9)
      (with_reducible rename News _ _ _ _ => N9)
      refine append_K F9 N9 (hUpS _ _ _ _ hro3) (fun h8 F10 N10 => ?_) (by rw [List.size_toArray, sizeLine_eq, hvl]; omega)
      clear F9 N9
      k_steps
      all_goals (try dsimp only)
      (with_reducible rename Fr _ _ _ _ => F9)
      (with_reducible rename News _ _ _ _ => N9)
      simp only [pushL] at N9
      refine LpEndT.next (nx := toldL (L + 1) SP AN A0 A1 A2 A3 IG _ (vals ++ [.ref D2]) [] [] [] [] (nd + 1) 0 0 0 0 io (tps ++ ((D, listOf ys nu) :: fps.flatten) ++ ((D2, listOf (ys.toList ++ zs).toArray 0) :: tps2))) ⟨rfl, rfl⟩ F9 N9 ⟨_, _, _, _, _, rfl, hoc5, hofft, hsp'⟩ (sub_told hsub3) ?_ (off_told ?_ hoffo) (by intro z z2; simp only [z2, Bool.false_eq_true, if_false])
      · intro p hp
        exact tail_told (howr p hp)
      · exact OwnOff.sub hoff adr_told
  · rintro u9 nx s9 hgo ⟨oc9, v9, vals, nd, tps, rfl, hoc, htf, hsp⟩ F4 N4
    clear F2 N3
    have hvl : vals.length = 4 := hsp.1
    have hal : as.length = ps.length := hp.1
    k_steps
    all_goals (try dsimp only)
    unfold Stop
    rename IsRange _ _ _ _ _ _ _ _ => hR5
    (with_reducible rename Fr _ _ _ _ => F5)
    (with_reducible rename News _ _ _ _ => N5)
    have e5 : 2 * ((as.length : Nat) : Int) = ((2 * ps.length : Nat) : Int) := by rw [hal]; omega
    rw [e5] at hR5
    refine for_rangeT (n := 2 * ps.length) (news := toldL (L + 1) SP AN A0 A1 A2 A3 IG oc9 vals [] [] [] [] nd 0 0 0 0 io tps) [Str.ofString "i", Str.ofString "name", Str.ofString "file"] (fun i => ToldJ2 w (L + 1) SP AN A0 A1 A2 A3 IG vals nd tps ml dl f (ps ++ turned ps) (fun _ => i)) rfl hR5 (by omega) F5 N5 ⟨oc9, v9, fun _ => [], fun _ => 0, io, kvs, rfl, hoc, fun k hk => ⟨(hr k hk).isd, (hr k hk).memo, hkl k hk, rfl, fun p hp => absurd hp (Nat.not_lt_zero p)⟩⟩ ?_ ?_
    · rintro i ti u8 nx s8 own hgo8 hi hoff hko ⟨oc8, v8, ls, ns, ios, kv, rfl, hoc8, hst⟩ F6 N6
      clear F5 N5
      obtain ⟨rst, hrst⟩ : ∃ r, tps ++ own = r := ⟨_, rfl⟩
      have hro : OwnOff rst (toldA (L + 1) SP AN A0 A1 A2 A3 IG) := by rw [← hrst]; exact OwnOff.app htf (OwnOff.sub hoff adr_told)
      have hN6 : News g L s8.heap (toldL (L + 1) SP AN A0 A1 A2 A3 IG oc8 vals (ls 0) (ls 1) (ls 2) (ls 3) nd (ns 0) (ns 1) (ns 2) (ns 3) ios rst) := by rw [← hrst]; exact N6
      clear N6
      k_steps
      all_goals (try dsimp only)
      unfold Stop
      rename IsRange _ _ _ _ _ _ _ _ => hR7
      (with_reducible rename Fr _ _ _ _ => F7)
      (with_reducible rename News _ _ _ _ => N7)
      refine for_rangeT (n := 4) (news := toldL (L + 1) SP AN A0 A1 A2 A3 IG oc8 vals (ls 0) (ls 1) (ls 2) (ls 3) nd (ns 0) (ns 1) (ns 2) (ns 3) ios rst) [Str.ofString "name", Str.ofString "file"] (fun how => ToldJ2 w (L + 1) SP AN A0 A1 A2 A3 IG vals nd rst ml dl f (ps ++ turned ps) (fun k => if k < how then i + 1 else i)) rfl hR7 (by decide) F7 N7 ⟨oc8, v8, ls, ns, ios, kv, rfl, hoc8, fun k hk => hst k hk⟩ ?_ ?_
      · rintro k tk5 u7 nx s7 own7 hgo7 hk4 hoff7 hko7 ⟨oc7, v7, ls7, ns7, ios7, kv7, rfl, hoc7, hst7⟩ F8 N8
        clear F7 N7
        obtain ⟨rs7, hrs7⟩ : ∃ r, rst ++ own7 = r := ⟨_, rfl⟩
        have hro7 : OwnOff rs7 (toldA (L + 1) SP AN A0 A1 A2 A3 IG) := by rw [← hrs7]; exact OwnOff.app hro (OwnOff.sub hoff7 adr_told)
        simp only [toldL, List.cons_append] at N8
        rw [hrs7] at N8
        obtain ⟨T9, bs, q, g1, g2, g3, g4⟩ := hsp.2 k hk4
        have hqs : (ps ++ turned ps).length = 2 * ps.length := by simp [turned_len]; omega
        obtain ⟨⟨x0, y0⟩, hxy⟩ : ∃ p, (ps ++ turned ps)[i]? = some p := ⟨_, List.getElem?_eq_getElem (by rw [hqs]; exact hi)⟩
        obtain ⟨t0, fv, hq1, hfv⟩ := g4.2 i _ _ hxy
        obtain ⟨U, hU1, hU2⟩ := g3.2 i _ _ hq1
        have hbl : bs.length = 2 * ps.length := by rw [g3.1, g4.1, hqs]
        have hmr : ∀ p ∈ tps, p ∈ rs7 := fun p hp => by rw [← hrs7, ← hrst]; exact List.mem_append.mpr (.inl (List.mem_append.mpr (.inl hp)))
        have hm1 := hmr _ g2
        have hm2 := hmr _ hU2
        have hAn : ([.ref A0, .ref A1, .ref A2, .ref A3] : List Value)[k]? = some (.ref (four A0 A1 A2 A3 k)) := lt4 (P := fun k => ([.ref A0, .ref A1, .ref A2, .ref A3] : List Value)[k]? = some (.ref (four A0 A1 A2 A3 k))) rfl rfl rfl rfl k hk4
        have hxn : ([.ref (x 0), .ref (x 1), .ref (x 2), .ref (x 3)] : List Value)[k]? = some (.ref (x k)) := lt4 (P := fun k => ([.ref (x 0), .ref (x 1), .ref (x 2), .ref (x 3)] : List Value)[k]? = some (.ref (x k))) rfl rfl rfl rfl k hk4
        have hmA := lt4 (P := fun k => (four A0 A1 A2 A3 k, listOf (ls7 k).toArray (ns7 k)) ∈ (A0, listOf (ls7 0).toArray (ns7 0)) :: (A1, listOf (ls7 1).toArray (ns7 1)) :: (A2, listOf (ls7 2).toArray (ns7 2)) :: (A3, listOf (ls7 3).toArray (ns7 3)) :: (IG 0, ios7 0) :: (IG 1, ios7 1) :: (IG 2, ios7 2) :: (IG 3, ios7 3) :: rs7) (.head _) (.tail _ (.head _)) (.tail _ (.tail _ (.head _))) (.tail _ (.tail _ (.tail _ (.head _)))) k hk4
        have hgr' : g.IsList rd (List.toArray [.ref (x 0), .ref (x 1), .ref (x 2), .ref (x 3)]) := hgr
        have hz1 : vals.length ≤ 1000000 := by rw [hvl]; decide
        have hz2 : bs.length ≤ 1000000 := by rw [hbl]; omega
        have hz3 : ([.ref A0, .ref A1, .ref A2, .ref A3] : List Value).length ≤ 1000000 := by simp
        have hz4 : ([.ref (x 0), .ref (x 1), .ref (x 2), .ref (x 3)] : List Value).length ≤ 1000000 := by simp
        have hU9 := hUpd oc7 vals (ls7 0) (ls7 1) (ls7 2) (ls7 3) nd (ns7 0) (ns7 1) (ns7 2) (ns7 3) ios7 rs7 hro7
        simp only [toldL] at hU9
        obtain ⟨hgx, ⟨q1, q2, q3, hgdx⟩, ⟨MS, nS, hgS, hgM⟩, ⟨dv, hgD, hgD1, hgD2⟩, hgI⟩ := hRG k hk4
        k_steps
        all_goals (try dsimp only)
        unfold Stop
        (with_reducible rename Fr _ _ _ _ => F9)
        (with_reducible rename News _ _ _ _ => N9)
        rename Obj.data _ = Data.cell (some _) => hoc9
        have hSt := hst7 k hk4
        simp only [Nat.lt_irrefl, if_false] at hSt
        have hname : qn (ps ++ turned ps) k i = spell k (rowOf x0) := by simp only [qn, List.getD, hxy, Option.getD_some]
        have hfile : qf (ps ++ turned ps) k i = (fileOf y0).map (spell k) := by simp only [qf, List.getD, hxy, Option.getD_some]
        have hI9 := lt4 (P := fun k => (IG k, ios7 k) ∈ (IG 0, ios7 0) :: (IG 1, ios7 1) :: (IG 2, ios7 2) :: (IG 3, ios7 3) :: rs7) (.head _) (.tail _ (.head _)) (.tail _ (.tail _ (.head _))) (.tail _ (.tail _ (.tail _ (.head _)))) k hk4
        have gI9 : (_ : Heap).get? (IG k) = some (ios7 k) := (drop7 N9 _ hI9).1
        have hSx := hgS.apart hgx hgI (hr k hk4).Sd
        have hDx := list_apart hgD hgx hgI (hr k hk4).Dd
        refine wpAny_call (names_code (h₀ := h₀) (x := x k) (dx := dx k) (S := S k) (DL := DL k) (IG := IG k) (f := memoF (ml k) (dl k) (qn (ps ++ turned ps) k) (qf (ps ++ turned ps) k) (f k) i) (ml := ml k) (dl := dl k) (file := (fileOf y0).map (spell k)) X T (fun b o e => F9.keep _ _ (hkg b o e)) (hr k hk4).nx (hr k hk4).ndx (hr k hk4).nig (F9.keep _ _ hgx) (F9.keep _ _ hgdx) gI9 (hgS.keeps F9.keep) hgM (keepL F9.keep hgD) hgD1 hgD2 hSx hDx ?hxI (hr k hk4).dI (hr k hk4).xd (hr k hk4).lo hSt.isd hSt.memo ?hln hfv (hr k hk4).lm (hr k hk4).ld rfl ?hdep ?_)
        case hxI => intro e; rw [e, hgI] at hgx; cases hgx
        case hln => have := hSt.len; omega
        case hdep => dsimp only [AA, Around.deeper]; omega
        intro a io9 kv9 h9 tk9 d9 t9 hk9 hio9 hd9 hm9 hl9 ha9
        obtain ⟨p1, p2, p3, p4⟩ := hApI k hk4
        have F10 := Fr.but F9 hk9 (by simpa using p4.symm) (by intro b hb; rw [List.mem_singleton.mp hb]; exact hgI)
        have N10 := News.repl (o' := io9) N9 hk9 hio9 p4 hgI (repl_io (io := ios7) (io' := io9) (ls := ls7) (ns := ns7) (fun j hj h => hII j k hj hk4 h) p1 p2 p3 (fun j hj => ((hApart j hj).2.2 k hk4).symm) (fun p hp => hro7 p hp (IG k) (ig_told hk4)))
        have hans : a = ansF (ml k) (dl k) (qn (ps ++ turned ps) k) (qf (ps ++ turned ps) k) (f k) i := by unfold ansF; rw [hname, hfile]; exact ha9
        have hmemo9 : MemoIs kv9 (memoF (ml k) (dl k) (qn (ps ++ turned ps) k) (qf (ps ++ turned ps) k) (f k) (i + 1)) := by
          have e9 : memoF (ml k) (dl k) (qn (ps ++ turned ps) k) (qf (ps ++ turned ps) k) (f k) (i + 1) = fun z => if z = spell k (rowOf x0) then some a else memoF (ml k) (dl k) (qn (ps ++ turned ps) k) (qf (ps ++ turned ps) k) (f k) i z := by
            rw [hans, ← hname]; rfl
          rw [e9]; exact hm9
        clear F9 N9
        dsimp only
        k_unmd
        k_steps
        all_goals (try dsimp only)
        unfold Stop
        rw [toS a, hans]
        (with_reducible rename Fr _ _ _ _ => F11)
        (with_reducible rename News _ _ _ _ => N11)
        have hm11 := drop3 N11 _ (memFour (ls := ls7) (ns := ns7) hk4)
        have hlk : (ls7 k).length = i := hSt.ll
        refine append_at hm11.1 (fun h12 hs12 ho12 => ?_) (by rw [List.size_toArray, sizeLine_eq, hlk]; omega)
        obtain ⟨⟨a1, a2, a3⟩, a4, a5⟩ := hApart k hk4
        rw [pushL] at ho12
        have F12 := F11.change hs12 hm11.2.1 hm11.2.2
        have N12 := News.repl N11 (samebut_keep hs12) ho12 hm11.2.1 hm11.2.2 (repl_ls (ls := ls7) (ns := ns7) a4 a1 a2 a3 a5 (fun p hp => hro7 p hp (four A0 A1 A2 A3 k) (four_told hk4)) rfl rfl)
        have hst12 := stepState (t := tk9) hst7 hk4 hd9 hmemo9 hl9
        clear F11 N11
        k_steps
        all_goals (try dsimp only)
        (with_reducible rename Fr _ _ _ _ => F13)
        (with_reducible rename News _ _ _ _ => N13)
        refine LpEndT.next (nx := toldL (L + 1) SP AN A0 A1 A2 A3 IG _ vals _ _ _ _ nd _ _ _ _ _ rst) ⟨rfl, rfl⟩ F13 N13 ⟨_, _, _, fun j => if j = k then ns7 k + 1 else ns7 j, _, _, rfl, hoc9, hst12⟩ (sub_told fun p hp => by rw [← hrs7]; exact List.mem_append.mpr (.inl hp)) ?_ (off_told (OwnOff.sub hoff7 adr_told) ?_) ?_
        · intro p hp
          have : p ∈ rs7 := by rw [← hrs7]; exact List.mem_append.mpr (.inr hp)
          exact tail_told this
        · intro p hp b hb
          exact hoff7 p hp b (tadr_told hb)
        · intro z hz
          have z1 : z ≠ Str.ofString "file" := by rintro rfl; revert hz; decide
          have z2 : z ≠ Str.ofString "name" := by rintro rfl; revert hz; decide
          simp only [if_neg z1, if_neg z2, hz, Bool.false_eq_true, if_false]
      · rintro u7 nx s7 hgo7 ⟨oc7, v7, ls7, ns7, ios7, kv7, rfl, hoc7, hst7⟩ F8 N8
        clear F7 N7
        dsimp only
        k_steps
        all_goals (try dsimp only)
        (with_reducible rename Fr _ _ _ _ => F13)
        (with_reducible rename News _ _ _ _ => N13)
        refine LpEndT.next (nx := toldL (L + 1) SP AN A0 A1 A2 A3 IG oc7 vals (ls7 0) (ls7 1) (ls7 2) (ls7 3) nd (ns7 0) (ns7 1) (ns7 2) (ns7 3) ios7 tps) ⟨hgo7.1, hgo7.2⟩ F13 N13 ⟨oc7, v7, ls7, ns7, ios7, kv7, rfl, hoc7, fun k hk => ?_⟩ (sub_told fun p hp => by rw [← hrst]; exact List.mem_append.mpr (.inl hp)) ?_ (off_told (OwnOff.sub hoff adr_told) ?_) ?_
        · have := hst7 k hk
          simp only [if_pos hk] at this
          exact this
        · intro p hp
          have : p ∈ rst := by rw [← hrst]; exact List.mem_append.mpr (.inr hp)
          exact tail_told this
        · intro p hp b hb
          exact hoff p hp b (tadr_told hb)
        · intro z hz
          have z0 : z ≠ Str.ofString "i" := by rintro rfl; revert hz; decide
          have z1 : z ≠ Str.ofString "file" := by rintro rfl; revert hz; decide
          have z2 : z ≠ Str.ofString "name" := by rintro rfl; revert hz; decide
          have z3 : [Str.ofString "name", Str.ofString "file"].contains z = false := by simp [z1, z2]
          simp only [if_neg z0, z3, hz, Bool.false_eq_true, if_false]
    · rintro u8 nx s8 hgo8 ⟨oc8, v8, ls, ns, ios, kv, rfl, hoc8, hst⟩ F6 N6
      clear F5 N5
      dsimp only
      k_steps
      all_goals (try dsimp only)
      have eg : s8.gens = s.gens := hgo8.1.trans hgo.1
      have eo : s8.os = s.os := hgo8.2.trans hgo.2
      have hfin := hQ AN A0 A1 A2 A3 ls ns s8.heap s8.toks s8.drawn (fun b o hb e => F6.keep b o (hg b o hb e)) (N6 _ (.tail _ (.tail _ (.head _)))).1 (fun k hk => ⟨(drop3 N6 _ (memFour (ls := ls) (ns := ns) hk)).1, (hst k hk).ll, (hst k hk).ans⟩)
      rw [← eg, ← eo] at hfin
      exact hfin
end
end Mine

end -- E3
theorem Mine.pad_P2 : Mine.PadG := by first | (walk1; fail "pad") | exact trivial
section -- P2
open PySem PySem.W PySem.Calls PyProof.Rows
set_option maxRecDepth 100000
set_option maxHeartbeats 4000000
namespace Mine
noncomputable def memo0 (k : Str) : Option Bool := if k = Str.ofString "<string>" then some true else none
noncomputable def spL (k : Nat) (vs : List Value) : List Str := vs.map fun v => spell k (rowOf v)
noncomputable def dotOf (k : Nat) : Int := [62, 63, 64, 64].getD k 0
noncomputable def slashOf (k : Nat) : Int := [63, 62, 64, 63].getD k 0
theorem sg_inj : ∀ k : Fin 4, ∀ i j : Fin 64, sg ((k.1 : Nat) : Int) ((i.1 : Nat) : Int) = sg ((k.1 : Nat) : Int) ((j.1 : Nat) : Int) → i = j := by decide +kernel
theorem sg_all : ∀ k : Fin 4, ∀ i : Fin 64, sg ((k.1 : Nat) : Int) ((i.1 : Nat) : Int) ≠ 61 ∧ sg ((k.1 : Nat) : Int) ((i.1 : Nat) : Int) ≠ 60 ∧ 0 ≤ sg ((k.1 : Nat) : Int) ((i.1 : Nat) : Int) ∧
    (sg ((k.1 : Nat) : Int) ((i.1 : Nat) : Int) = 46 ↔ ((i.1 : Nat) : Int) = dotOf k.1) ∧ (sg ((k.1 : Nat) : Int) ((i.1 : Nat) : Int) = 47 ↔ ((i.1 : Nat) : Int) = slashOf k.1) := by decide +kernel
theorem sg_at {k : Nat} (hk : k < 4) {f : Int} (h0 : 0 ≤ f) (h1 : f < 64) : sg k f ≠ 61 ∧ sg k f ≠ 60 ∧ 0 ≤ sg k f ∧ (sg k f = 46 ↔ f = dotOf k) ∧ (sg k f = 47 ↔ f = slashOf k) := by
  have := sg_all ⟨k, hk⟩ ⟨f.toNat, by omega⟩
  have e : ((f.toNat : Nat) : Int) = f := by omega
  dsimp only at this
  rw [e] at this
  exact this
theorem signs {k : Nat} (hk : k < 4) : Signs (sg k) := by
  refine ⟨fun x y hx0 hx1 hy0 hy1 e => ?_, fun x h0 h1 => (sg_at hk h0 h1).1⟩
  have e1 : ((x.toNat : Nat) : Int) = x := by omega
  have e2 : ((y.toNat : Nat) : Int) = y := by omega
  have := sg_inj ⟨k, hk⟩ ⟨x.toNat, by omega⟩ ⟨y.toNat, by omega⟩ (by dsimp only; rw [e1, e2]; exact e)
  have := congrArg Fin.val this
  dsimp only at this
  omega
theorem enc_pos {k : Nat} (hk : k < 4) {r : List Int} (h : ∀ n ∈ r, 0 ≤ n ∧ n < 256) : ∀ x ∈ encBy (sg k) r, 0 ≤ x ∧ x ≠ 60 :=
  enc_mem (P := fun x => 0 ≤ x ∧ x ≠ 60) (by decide) (fun f h0 h1 => ⟨(sg_at hk h0 h1).2.2.1, (sg_at hk h0 h1).2.1⟩) r h
theorem toNat_inj : ∀ {a b : List Int}, (∀ x ∈ a, 0 ≤ x) → (∀ x ∈ b, 0 ≤ x) → a.map Int.toNat = b.map Int.toNat → a = b
  | [], [], _, _, _ => rfl
  | [], _ :: _, _, _, e => by simp at e
  | _ :: _, [], _, _, e => by simp at e
  | x :: a, y :: b, ha, hb, e => by
    simp only [List.map_cons, List.cons.injEq] at e
    have h1 := ha x (by simp)
    have h2 := hb y (by simp)
    have h3 : x = y := by omega
    rw [h3, toNat_inj (fun z hz => ha z (by simp [hz])) (fun z hz => hb z (by simp [hz])) e.2]
theorem toNat_pre : ∀ {c a : List Int}, (∀ x ∈ c, 0 ≤ x) → (∀ x ∈ a, 0 ≤ x) → (c.map Int.toNat).isPrefixOf (a.map Int.toNat) = c.isPrefixOf a
  | [], a, _, _ => by simp [List.isPrefixOf]
  | x :: c, [], _, _ => by simp [List.isPrefixOf]
  | x :: c, y :: a, hc, ha => by
    have h1 := hc x (by simp)
    have h2 := ha y (by simp)
    have h3 : (x.toNat == y.toNat) = (x == y) := by
      rw [Bool.eq_iff_iff]
      simp only [beq_iff_eq]
      omega
    simp only [List.map_cons, List.isPrefixOf, h3]
    rw [toNat_pre (fun z hz => hc z (by simp [hz])) (fun z hz => ha z (by simp [hz]))]
theorem starts_pre (a c : List Nat) : Txt.startswith ⟨a.toArray⟩ ⟨c.toArray⟩ = c.isPrefixOf a := by
  rw [Bool.eq_iff_iff, List.isPrefixOf_iff_prefix, List.prefix_iff_eq_take]
  unfold Txt.startswith Builtin.Str.subAt Str.length
  simp only [Nat.zero_add, Bool.and_eq_true, decide_eq_true_eq, List.size_toArray, beq_iff_eq]
  constructor
  · rintro ⟨h1, h2⟩
    have := congrArg Array.toList h2
    simp at this
    exact this.symm
  · intro h
    have hl : c.length ≤ a.length := by
      have := congrArg List.length h
      simp at this
      omega
    refine ⟨hl, ?_⟩
    apply Array.toList_inj.mp
    simp
    exact h.symm
theorem strOf_dot (ks : List Int) : strOf ks ++ Str.ofString "." = strOf (ks ++ [46]) := by
  show Str.append _ _ = _
  have e : Str.ofString "." = ⟨#[46]⟩ := by decide +kernel
  rw [e]
  simp [Str.append, strOf]
theorem strOf_slash (ks : List Int) : strOf ks ++ Str.ofString "/" = strOf (ks ++ [47]) := by
  show Str.append _ _ = _
  have e : Str.ofString "/" = ⟨#[47]⟩ := by decide +kernel
  rw [e]
  simp [Str.append, strOf]
theorem starts_of {k : Nat} (hk : k < 4) {n m : List Int} {d q : Int} (hd0 : 0 ≤ d) (hd : d ≠ 61) (hq : ∀ f, 0 ≤ f → f < 64 → (sg k f = d ↔ f = q)) (hn : ∀ x ∈ n, 0 ≤ x ∧ x < 256) (hm : ∀ x ∈ m, 0 ≤ x ∧ x < 256) :
    Txt.startswith (strOf (encBy (sg k) n)) (strOf (encBy (sg k) m ++ [d])) = belowB n m q := by
  unfold strOf
  rw [starts_pre, toNat_pre ?_ ?_]
  · exact enc_below (signs hk) hd hq n m hn hm
  · intro x hx
    rcases List.mem_append.mp hx with h | h
    · exact (enc_pos hk hm x h).1
    · rw [List.mem_singleton.mp h]; exact hd0
  · intro x hx
    exact (enc_pos hk hn x hx).1
theorem spell_inj {k : Nat} (hk : k < 4) {r r' : List Int} (h : ∀ x ∈ r, 0 ≤ x ∧ x < 256) (h' : ∀ x ∈ r', 0 ≤ x ∧ x < 256) (e : spell k r = spell k r') : r = r' := by
  unfold spell strOf at e
  injection e with e
  have e := congrArg Array.toList e
  exact enc_inj (signs hk) r r' h h' (toNat_inj (fun x hx => (enc_pos hk h x hx).1) (fun x hx => (enc_pos hk h' x hx).1) (by simpa using e))
theorem spell_no {k : Nat} (hk : k < 4) {r : List Int} (h : ∀ x ∈ r, 0 ≤ x ∧ x < 256) : spell k r ≠ Str.ofString "<string>" := by
  intro e
  have e1 : Str.ofString "<string>" = ⟨#[60, 115, 116, 114, 105, 110, 103, 62]⟩ := by decide +kernel
  rw [e1] at e
  unfold spell strOf at e
  injection e with e
  have e := congrArg Array.toList e
  simp only [Array.toList] at e
  have h60 : 60 ∈ (encBy (sg k) r).map Int.toNat := by rw [e]; simp
  obtain ⟨x, hx, hx'⟩ := List.mem_map.mp h60
  have := enc_pos hk h x hx
  omega
theorem octs (v : Value) : ∀ x ∈ rowOf v, 0 ≤ x ∧ x < 256 := by
  cases v <;> first | exact bInts_in _ | (intro x hx; cases hx)
theorem octsF {v : Value} {f : List Int} (h : fileOf v = some f) : ∀ x ∈ f, 0 ≤ x ∧ x < 256 := by
  cases v <;> first | (cases h; exact bInts_in _) | cases h
/-- one answer, by the octets -/
theorem name_rule {k : Nat} (hk : k < 4) (a0 a1 : List Value) (nv fv : Value) :
    nameAns (spL k a0) (spL k a1) ((fileOf fv).map (spell k)) (spell k (rowOf nv)) = ruleB (rowOf nv) (fileOf fv) (a0.map rowOf) (a1.map rowOf) (dotOf k) (slashOf k) := by
  unfold nameAns ruleB
  cases hf : fileOf fv with
  | none => simp
  | some f =>
    simp only [Option.map_some]
    have hfo := octsF hf
    have e1 : (spL k a0).contains (spell k (rowOf nv)) = (a0.map rowOf).any (· == rowOf nv) := by
      rw [Bool.eq_iff_iff, List.contains_iff_mem, List.any_eq_true]
      constructor
      · intro h
        obtain ⟨v, hv, e⟩ := List.mem_map.mp h
        exact ⟨rowOf v, List.mem_map.mpr ⟨v, hv, rfl⟩, by simpa using spell_inj hk (octs v) (octs nv) e⟩
      · rintro ⟨r, hr, e⟩
        obtain ⟨v, hv, rfl⟩ := List.mem_map.mp hr
        have e' : rowOf v = rowOf nv := by simpa using e
        exact List.mem_map.mpr ⟨v, hv, by rw [e']⟩
    have e2 : ((spL k a0).any fun m => Txt.startswith (spell k (rowOf nv)) (m ++ Str.ofString ".")) = (a0.map rowOf).any fun m => belowB (rowOf nv) m (dotOf k) := by
      unfold spL
      rw [List.any_map, List.any_map]
      congr 1
      funext v
      show Txt.startswith (spell k (rowOf nv)) (spell k (rowOf v) ++ Str.ofString ".") = belowB (rowOf nv) (rowOf v) (dotOf k)
      unfold spell
      rw [strOf_dot]
      exact starts_of hk (by decide) (by decide) (fun f h0 h1 => (sg_at hk h0 h1).2.2.2.1) (octs nv) (octs v)
    have e3 : ((spL k a1).any fun d => Txt.startswith (spell k f) (d ++ Str.ofString "/")) = (a1.map rowOf).any fun d => belowB f d (slashOf k) := by
      unfold spL
      rw [List.any_map, List.any_map]
      congr 1
      funext v
      show Txt.startswith (spell k f) (spell k (rowOf v) ++ Str.ofString "/") = belowB f (rowOf v) (slashOf k)
      unfold spell
      rw [strOf_slash]
      exact starts_of hk (by decide) (by decide) (fun f h0 h1 => (sg_at hk h0 h1).2.2.2.2) hfo (octs v)
    rw [e1, e2, e3]
theorem memo_first {ml dl : List Str} {nm : Nat → Str} {fl : Nat → Option Str} : ∀ (j : Nat) (s : Str), s ≠ Str.ofString "<string>" →
    memoF ml dl nm fl memo0 j s = ((List.range j).find? (fun i => nm i == s)).map (fun i => nameAns ml dl (fl i) s) := by
  intro j
  induction j with
  | zero => intro s hs; simp [memoF, memo0, hs]
  | succ j ih =>
    intro s hs
    unfold memoF
    rw [List.range_succ, List.find?_append]
    by_cases e : s = nm j
    · subst e
      rw [if_pos rfl, ih _ hs]
      cases (List.range j).find? (fun i => nm i == nm j) with
      | none => simp
      | some i => simp
    · rw [if_neg e, ih _ hs]
      have : (nm j == s) = false := by simpa using fun h : nm j = s => e h.symm
      simp [this]
theorem plain_law {k : Nat} (hk : k < 4) {a0 a1 : List Value} {qs : List (Value × Value)} (_h0 : RowsIn 9 a0) (_h1 : RowsIn 9 a1) (_hq : RowPairs qs) {p : Nat} (hp : p < qs.length) :
    ansF (spL k a0) (spL k a1) (qn qs k) (qf qs k) memo0 p = dueAt (nmsOf qs) (flsOf qs) (a0.map rowOf) (a1.map rowOf) (dotOf k) (slashOf k) p := by
  have hrow : ∀ i, qn qs k i = spell k ((nmsOf qs).getD i []) := by
    intro i
    unfold qn nmsOf
    cases hi : qs[i]? with
    | none => simp [List.getD, hi, rowOf]
    | some q => simp [List.getD, hi]
  have hfil : ∀ i, qf qs k i = ((flsOf qs).getD i none).map (spell k) := by
    intro i
    unfold qf flsOf
    cases hi : qs[i]? with
    | none => simp [List.getD, hi, fileOf]
    | some q => simp [List.getD, hi]
  have hoct : ∀ i, ∀ x ∈ (nmsOf qs).getD i [], 0 ≤ x ∧ x < 256 := by
    intro i
    unfold nmsOf
    cases hi : qs[i]? with
    | none => simp [List.getD, hi]
    | some q => simp [List.getD, hi]; exact octs q.1
  have hrule : ∀ i, nameAns (spL k a0) (spL k a1) (qf qs k i) (qn qs k p) = ruleB ((nmsOf qs).getD p []) ((flsOf qs).getD i none) (a0.map rowOf) (a1.map rowOf) (dotOf k) (slashOf k) := by
    intro i
    have h1 : (nmsOf qs).getD p [] = rowOf qs[p].1 := by simp [List.getD, List.getElem?_eq_getElem hp]
    rw [hrow p, hfil i, h1]
    cases hi : qs[i]? with
    | none =>
      have h2 : (flsOf qs).getD i none = none := by simp [List.getD, hi]
      rw [h2]
      simp [nameAns, ruleB]
    | some q =>
      have h2 : (flsOf qs).getD i none = fileOf q.2 := by simp [List.getD, hi]
      rw [h2]
      exact name_rule hk a0 a1 qs[p].1 q.2
  have hlen : (nmsOf qs).length = qs.length := by simp
  have hmem : (nmsOf qs).getD p [] ∈ nmsOf qs := by
    rw [List.getD, List.getElem?_eq_getElem (by rw [hlen]; exact hp)]
    exact List.getElem_mem _
  have hidx := List.idxOf_lt_length_iff.mpr hmem
  have hat : (nmsOf qs).getD ((nmsOf qs).idxOf ((nmsOf qs).getD p [])) [] = (nmsOf qs).getD p [] := by
    rw [List.getD, List.getElem?_eq_getElem hidx]
    exact List.getElem_idxOf hidx
  have hbef : ∀ i, i < (nmsOf qs).idxOf ((nmsOf qs).getD p []) → (nmsOf qs).getD i [] ≠ (nmsOf qs).getD p [] := by
    intro i hi e
    have hlt : i < (nmsOf qs).length := Nat.lt_trans hi hidx
    have := List.not_of_lt_findIdx (p := (· == (nmsOf qs).getD p [])) (xs := nmsOf qs) (i := i) hi
    rw [List.getD, List.getElem?_eq_getElem hlt] at e
    have e' : (nmsOf qs)[i] = (nmsOf qs).getD p [] := e
    rw [e'] at this
    simp at this
  have hno : qn qs k p ≠ Str.ofString "<string>" := by rw [hrow]; exact spell_no hk (hoct p)
  have heq : ∀ i, (qn qs k i == qn qs k p) = true ↔ (nmsOf qs).getD i [] = (nmsOf qs).getD p [] := by
    intro i
    rw [beq_iff_eq, hrow i, hrow p]
    exact ⟨spell_inj hk (hoct i) (hoct p), fun e => by rw [e]⟩
  unfold ansF dueAt
  rw [memo_first p _ hno]
  generalize hI : (nmsOf qs).idxOf ((nmsOf qs).getD p []) = I at hat hbef hidx
  by_cases hIp : I < p
  · have hfind : (List.range p).find? (fun i => qn qs k i == qn qs k p) = some I := by
      rw [List.find?_range_eq_some]
      refine ⟨(heq I).mpr hat, by simpa using hIp, fun j hj => ?_⟩
      have : ¬ ((qn qs k j == qn qs k p) = true) := fun h => hbef j hj ((heq j).mp h)
      simpa using this
    rw [hfind]
    exact hrule I
  · have hge : I = p := by
      rcases Nat.lt_or_ge p I with h | h
      · exact absurd rfl (hbef p h)
      · omega
    subst hge
    have hfind : (List.range I).find? (fun i => qn qs k i == qn qs k I) = none := by
      rw [List.find?_range_eq_none]
      intro j hj
      have : ¬ ((qn qs k j == qn qs k I) = true) := fun h => hbef j hj ((heq j).mp h)
      simpa using this
    rw [hfind]
    exact hrule I
end Mine

end -- P2
theorem Mine.pad_E4 : Mine.PadG := by first | (walk1; fail "pad") | exact trivial
section -- E4
open PySem PySem.W PySem.Calls PyProof.Rows
set_option maxRecDepth 100000
set_option maxHeartbeats 4000000
namespace Mine
noncomputable def StopMark : Prop := True
local macro_rules | `(tactic| walk_at "pyIter ref") => `(tactic| refine stopHere ?_)
local macro_rules | `(tactic| walk_at "call ref") => `(tactic| refine stopHere ?_)
local macro_rules | `(tactic| walk_at "eval Subscript") => `(tactic| ((with_reducible rename StopMark => mk'); clear mk'; refine stopHere ?_))
local macro_rules | `(tactic| walk_at "subscriptTail") => `(tactic| refine stopHere ?_)
local macro_rules | `(tactic| walk_at "truthy ref") => `(tactic| refine stopHere ?_)
local macro_rules | `(tactic| walk_at "exec Assign cons ListComp") => `(tactic| refine stopHere ?_)
local macro_rules | `(tactic| walk_at "compareOp Eq ref ref") => `(tactic| refine stopHere ?_)
local macro_rules | `(tactic| walk_at "assign Tuple") => `(tactic| (k_here; (with_reducible show wpAny _ _ (assign (Expr.Tuple _ _ _) _ (Value.ref _)) _ _ _); (with_reducible rename News _ _ _ _ => kN'); k_dflt (refine' unpackN_ ?F kN' (isTupOf (drop3 kN') ?T) ?k1 ?k2 ?k3 ?_; (case F => k_asm); (case T => with_reducible assumption); (case k1 => exact rfl); (case k2 => exact rfl); (case k3 => exact rfl)); intro h' F' N'; (try k_sweep)))
/-- the asks as pairs -/
theorem asks_pairs {tps : List (Addr × Obj)} {as : List Value} (h : AsksIn tps as) : ∃ ps, PairsL tps as ps ∧ RowPairs ps := by
  induction as with
  | nil => exact ⟨[], ⟨rfl, fun i x y e => by simp at e⟩, fun p hp => by cases hp⟩
  | cons v r ih =>
    obtain ⟨ps, hp, hr⟩ := ih fun v hv => h v (.tail _ hv)
    obtain ⟨T, b, t, y, rfl, hm, hb, hy⟩ := h v (.head _)
    refine ⟨(.bytes b t, y) :: ps, ⟨by simp [hp.1], fun i x y' e => ?_⟩, fun p hp' => ?_⟩
    · cases i with
      | zero => simp at e; obtain ⟨rfl, rfl⟩ := e; exact ⟨T, rfl, hm⟩
      | succ j => simp only [List.getElem?_cons_succ] at e ⊢; exact hp.2 j x y' e
    · rcases List.mem_cons.mp hp' with rfl | hp'
      · exact ⟨⟨b, t, rfl, hb⟩, hy⟩
      · exact hr p hp'
theorem off3 {a b c : Addr} {oa ob oc : Obj} {r : List (Addr × Obj)} : ∀ z ∈ [a, b, c], z ∈ ((a, oa) :: (b, ob) :: (c, oc) :: r).map (·.1) := by
  intro z hz
  simp only [List.mem_cons, List.not_mem_nil, or_false] at hz
  rcases hz with e | e | e <;> simp [e]
/-- a reader as it is made -/
noncomputable def MadeG (w : World) (a0 a1 : List Value) (i : Nat) (y : Value) (fp : List (Addr × Obj)) : Prop :=
  ∃ x dx S DL IG so io c t1 t2 t3 t5 vals nd, y = .ref x ∧ fp = rdr w x dx S DL IG so (listOf (List.toArray vals) nd) io t1 t2 t3 ∧ @LT.lt Nat _ dx x ∧ @LT.lt Nat _ x S ∧ @LT.lt Nat _ S DL ∧ @LT.lt Nat _ DL IG ∧
    SetLO PG w so (among (fun j => spell i (rowOf (a0.getD j .none))) a0.length) c ∧ io.IsDictOf (PySem.strKind PG w) [(Str.ofString "<string>", Value.int 1 t5)] ∧ (IG == sysModules) = false ∧
    vals.length = a1.length ∧ ∀ j, j < a1.length → ∃ t, vals[j]? = some (.str (spell i (rowOf (a1.getD j .none))) t)
theorem News.butL {h₀ h h' : Heap} {L : Addr} {nx : List (Addr × Obj)} (N : News h₀ L h nx) (hk : ∀ b o, b ∉ [L] → h.get? b = some o → h'.get? b = some o) : News h₀ L h' nx :=
  fun p hp => ⟨hk _ _ (by simpa using (N p hp).2.1) (N p hp).1, (N p hp).2⟩
local macro_rules | `(tactic| walk_at "eval ListComp") => `(tactic| (walk_at "mine_lc"))
local macro_rules | `(tactic| walk_at "eval Name") => `(tactic| (walk_at "mine_name"))
theorem drop8 {h₀ h : Heap} {L : Addr} {a b c d e f g i : Addr × Obj} {r : List (Addr × Obj)} (N : News h₀ L h (a :: b :: c :: d :: e :: f :: g :: i :: r)) : News h₀ L h r := fun p hp => N p (by simp [hp])
structure RdT where
  x : Addr
  dx : Addr
  S : Addr
  DL : Addr
  IG : Addr
  so : Obj
  io : Obj
  c : Nat
  t1 : Tok
  t2 : Tok
  t3 : Tok
  t5 : Tok
  vals : List Value
  nd : Nat
theorem choice4 {α : Type} {P : Nat → α → Prop} (h : ∀ k, k < 4 → ∃ a, P k a) : ∃ F : Nat → α, ∀ k, k < 4 → P k (F k) := by
  obtain ⟨a0, h0⟩ := h 0 (by decide)
  obtain ⟨a1, h1⟩ := h 1 (by decide)
  obtain ⟨a2, h2⟩ := h 2 (by decide)
  obtain ⟨a3, h3⟩ := h 3 (by decide)
  exact ⟨fun k => if k = 0 then a0 else if k = 1 then a1 else if k = 2 then a2 else a3, lt4 h0 h1 h2 h3⟩
theorem list4 {ys : Array Value} {x : Nat → Addr} (hs : ys.size = 4) (h : ∀ k, k < 4 → ys[k]? = some (.ref (x k))) : ys = #[.ref (x 0), .ref (x 1), .ref (x 2), .ref (x 3)] := by
  obtain ⟨l⟩ := ys
  have h0 := h 0 (by decide)
  have h1 := h 1 (by decide)
  have h2 := h 2 (by decide)
  have h3 := h 3 (by decide)
  rcases l with _ | ⟨a, _ | ⟨b, _ | ⟨c, _ | ⟨d, _ | ⟨e, r⟩⟩⟩⟩⟩
  all_goals simp at hs h0 h1 h2 h3
  rw [h0, h1, h2, h3]
theorem memo0_is (t : Tok) : MemoIs [(Str.ofString "<string>", Value.int 1 t)] memo0 := by
  intro k
  unfold memo0
  by_cases e : k = Str.ofString "<string>"
  · simp only [e, if_true]
    exact ⟨t, by simp [valueAt]⟩
  · simp only [if_neg e]
    have : (decide (Str.ofString "<string>" = k)) = false := by simpa using fun h : Str.ofString "<string>" = k => e h.symm
    simp [valueAt, this]
theorem among_mem {k : Nat} {vs : List Value} (z : Str) : among (fun j => spell k (rowOf (vs.getD j .none))) vs.length z = true ↔ z ∈ spL k vs := by
  unfold among spL
  rw [List.any_eq_true]
  constructor
  · rintro ⟨j, hj, e⟩
    have hlt : j < vs.length := by simpa using hj
    have e' : spell k (rowOf (vs.getD j .none)) = z := by simpa using e
    rw [← e', List.getD, List.getElem?_eq_getElem hlt]
    exact List.mem_map.mpr ⟨vs[j], List.getElem_mem hlt, rfl⟩
  · intro h
    obtain ⟨v, hv, rfl⟩ := List.mem_map.mp h
    obtain ⟨j, hj⟩ := List.mem_iff_getElem?.mp hv
    have hlt := (List.getElem?_eq_some_iff.mp hj).1
    exact ⟨j, by simpa using hlt, by simp [List.getD, hj]⟩
theorem spL_at {k : Nat} {vs : List Value} {j : Nat} (hj : j < vs.length) : (spL k vs).getD j (Str.ofString "") = spell k (rowOf (vs.getD j .none)) := by
  simp [spL, List.getD, List.getElem?_eq_getElem hj]
theorem spell_len {k : Nat} {r : List Int} (h : r.length ≤ 9) : (spell k r).length ≤ 100 := by
  have := enc_len (sg k) r
  show (List.toArray _).size ≤ 100
  simp; omega
theorem spL_len {k : Nat} {vs : List Value} (h : RowsIn 9 vs) : ∀ m ∈ spL k vs, m.length ≤ 100 := by
  intro m hm
  obtain ⟨v, hv, rfl⟩ := List.mem_map.mp hm
  obtain ⟨b, t, rfl, hl⟩ := h v hv
  exact spell_len hl
theorem made_reader {w : World} {h₀ h : Heap} {L : Addr} {x dx S DL IG : Addr} {so io : Obj} {c : Nat} {t1 t2 t3 t5 : Tok} {vals : List Value} {nd : Nat} {a0 a1 : List Value} {k : Nat}
    (N : ∀ p ∈ rdr w x dx S DL IG so (listOf (List.toArray vals) nd) io t1 t2 t3, h.get? p.1 = some p.2 ∧ p.1 ≠ L ∧ h₀.get? p.1 = none) (g1 : @LT.lt Nat _ dx x) (g2 : @LT.lt Nat _ x S) (g3 : @LT.lt Nat _ S DL) (g4 : @LT.lt Nat _ DL IG)
    (hso : SetLO PG w so (among (fun j => spell k (rowOf (a0.getD j .none))) a0.length) c) (hio : io.IsDictOf (PySem.strKind PG w) [(Str.ofString "<string>", Value.int 1 t5)]) (hlo : (IG == sysModules) = false) (hvl : vals.length = a1.length)
    (hvj : ∀ j, j < a1.length → ∃ t, vals[j]? = some (.str (spell k (rowOf (a1.getD j .none))) t)) (hr0 : RowsIn 9 a0) (hr1 : RowsIn 9 a1) :
    Reader w h₀ h x dx S DL IG io [(Str.ofString "<string>", Value.int 1 t5)] memo0 (spL k a0) (spL k a1) := by
  have mI := N _ (.head _)
  have mD := N _ (.tail _ (.head _))
  have mS := N _ (.tail _ (.tail _ (.head _)))
  have mx := N _ (.tail _ (.tail _ (.tail _ (.head _))))
  have md := N _ (.tail _ (.tail _ (.tail _ (.tail _ (.head _)))))
  refine ⟨mx.2.2, md.2.2, mI.2.2, mx.1, ⟨t1, t2, t3, md.1⟩, mI.1, hio, memo0_is t5, ⟨_, c, hso.at mS.1, among_mem⟩, ⟨vals, ⟨_, mD.1, rfl, _, rfl⟩, by simp [spL, hvl], fun j hj => ?_⟩, neN ?_, neN ?_, neN ?_, neN ?_, hlo, spL_len hr0, spL_len hr1⟩
  · have hj' : j < a1.length := by simpa [spL] using hj
    rw [spL_at hj']
    exact hvj j hj'
  all_goals omega
theorem News.but8 {h₀ h h' : Heap} {L : Addr} {a b c d e f g i : Addr} {oa ob oc od oe of og oi : Obj} {r r' : List (Addr × Obj)} {ch : List Addr} (N : News h₀ L h ((a, oa) :: (b, ob) :: (c, oc) :: (d, od) :: (e, oe) :: (f, of) :: (g, og) :: (i, oi) :: r)) (k : KeepBut h h' ch) (h8 : ∀ z ∈ [a, b, c, d, e, f, g, i], z ∉ ch)
    (hr : ∀ p ∈ r', p ∈ r ∧ p.1 ∉ ch) : News h₀ L h' ((a, oa) :: (b, ob) :: (c, oc) :: (d, od) :: (e, oe) :: (f, of) :: (g, og) :: (i, oi) :: r') := by
  have key : ∀ p ∈ (a, oa) :: (b, ob) :: (c, oc) :: (d, od) :: (e, oe) :: (f, of) :: (g, og) :: (i, oi) :: r', p ∈ (a, oa) :: (b, ob) :: (c, oc) :: (d, od) :: (e, oe) :: (f, of) :: (g, og) :: (i, oi) :: r ∧ p.1 ∉ ch := by
    intro p hp
    simp only [List.mem_cons] at hp
    rcases hp with rfl | rfl | rfl | rfl | rfl | rfl | rfl | rfl | hp
    rotate_right
    · exact ⟨by simp [(hr p hp).1], (hr p hp).2⟩
    all_goals exact ⟨by simp, h8 _ (by simp)⟩
  intro p hp
  obtain ⟨h1, h2⟩ := key p hp
  exact ⟨k _ _ h2 (N p h1).1, (N p h1).2⟩
theorem rc_true {A : Around} {s : Shared} {y x : Value} {b : Bool} (h : PySem.SeqAt.RcAt A s y x b) (hb : b = true) : PySem.SeqAt.RcAt A s y x true := hb ▸ h
theorem RowPairs.twice {ps : List (Value × Value)} (h : RowPairs ps) : RowPairs (ps ++ turned ps) := by
  intro p hp
  rcases List.mem_append.mp hp with hp | hp
  · exact h p hp
  · unfold turned at hp
    obtain ⟨i, hi⟩ := List.mem_iff_getElem?.mp hp
    rw [List.getElem?_zipWith] at hi
    cases ha : ps[i]? with
    | none => rw [ha] at hi; simp at hi
    | some a =>
      cases hb : ps.reverse[i]? with
      | none => rw [ha, hb] at hi; simp at hi
      | some b =>
        rw [ha, hb] at hi
        have e : (a.1, b.2) = p := by simpa using hi
        rw [← e]
        exact ⟨(h a (List.mem_of_getElem? ha)).1, (h b (List.mem_reverse.mp (List.mem_of_getElem? hb))).2⟩
noncomputable def DueG (w : World) (a0 a1 : List Value) (qs : List (Value × Value)) (j : Nat) (y : Value) (fp : List (Addr × Obj)) : Prop :=
  ∃ D us n, y = .ref D ∧ fp = [(D, listOf us n)] ∧ us.size = qs.length ∧ ∀ p, p < qs.length → ∃ t, us[p]? = some (.str (ansS (dueAt (nmsOf qs) (flsOf qs) (a0.map rowOf) (a1.map rowOf) (dotOf j) (slashOf j) p)) t)
theorem sign_at {h : Heap} {g1 g2 g3 g4 T : Addr} {a b c d e f i k : Tok} {x y : Value} {j : Nat} (h1 : h.IsTuple g1 #[.int 62 a, .int 63 b]) (h2 : h.IsTuple g2 #[.int 63 c, .int 62 d]) (h3 : h.IsTuple g3 #[.int 64 e, .int 64 f]) (h4 : h.IsTuple g4 #[.int 64 i, .int 63 k])
    (hv : ([.ref g1, .ref g2, .ref g3, .ref g4] : List Value)[j]? = some (.ref T)) (hT : h.IsTuple T #[x, y]) : j < 4 ∧ ∃ tx ty, x = .int (dotOf j) tx ∧ y = .int (slashOf j) ty := by
  have hj : j < 4 := by have := (List.getElem?_eq_some_iff.mp hv).1; simpa using this
  refine ⟨hj, ?_⟩
  revert hv
  refine lt4 (P := fun j => ([.ref g1, .ref g2, .ref g3, .ref g4] : List Value)[j]? = some (.ref T) → ∃ tx ty, x = .int (dotOf j) tx ∧ y = .int (slashOf j) ty) ?_ ?_ ?_ ?_ j hj
  · intro hv; simp at hv; subst hv; have := tup_uniq hT h1; simp at this; exact ⟨_, _, this.1, this.2⟩
  · intro hv; simp at hv; subst hv; have := tup_uniq hT h2; simp at this; exact ⟨_, _, this.1, this.2⟩
  · intro hv; simp at hv; subst hv; have := tup_uniq hT h3; simp at this; exact ⟨_, _, this.1, this.2⟩
  · intro hv; simp at hv; subst hv; have := tup_uniq hT h4; simp at this; exact ⟨_, _, this.1, this.2⟩
theorem law_post (args : List WData) : PySem.Challenge.rw_nq0028_01.row.claim.post args (.bool true) args = true := postW_of (r := PySem.Challenge.rw_nq0028_01.row.toRowW) rfl rfl (by decide +kernel)
theorem law_t : PySem.Challenge.rw_nq0028_01.Holds := by
  refine Mine.hd ?_
  k_fill
  intro w s₀ s₁ mg mb G Y fa o pm cd doc dV kV ho hd hcd hD hmg hg args vals as hpre hlay hrd hwl hlo
  have KX := kIn_of Y
  refine Ground.open G ?_
  intro T B D TE TW
  try (refine guard_noD D (by decide +kernel) ?_; clear D)
  have TA := at_of_top T
  clear hmg B TE TW
  wrow_args hpre hlay hrd hwl hlo
  first | refine callC_kw (enter_call ?_) | refine enter_call ?_ | refine callC_kw (enter_callW ?_) | refine enter_callW ?_
  w_top on
  try refine codeAny_mono ?_ (fun _ _ g => GoodW.toG g)
  (rename List Int => ns)
  (rename Addr => l)
  (rename List Value => vs)
  (rename s₁.heap.IsList _ _ => hL)
  (rename IntsAre _ _ => hI)
  (rename Well _ _ _ _ => z1; clear z1)
  (rename ReadsAllW _ _ _ _ _ _ => z2; clear z2)
  (rename Reads _ _ _ _ => z3; clear z3)
  (rename ReadsAll _ _ _ _ => z4; clear z4)
  (rename WShape.hasAll _ _ _ = true => z5; clear z5)
  (rename WData.layableAll _ = true => z6; clear z6)
  (rename PyData.layableAll0 _ = true => z7; clear z7)
  (rename Spec.Shape.has _ _ = true => z8; clear z8)
  (rename PyData.layable0 _ = true => z9; clear z9)
  have hlen : ns.length ≤ 63 := by omega
  clear G Y
  have K0 := below_caller (Top.heap T)
  w_call any ho hd hcd hD T F
  clear hd TA
  k_drop
  clear K0 hcd hD ho
  (rename CellsAre _ _ _ => z10; clear z10)
  (with_reducible rename Fr _ _ _ _ => F)
  have F2 : Fr s₁.heap s₁.heap.objs.size _ (fun y => if y = Str.ofString "script" then some (.ref l) else none) := F
  clear F
  (rename Obj.data _ = _ => d3)
  have d3' : Obj.data _ = Data.cell none := d3
  clear d3
  (rename Obj.data _ = Data.cell (bindC _ _ _ _) => d2)
  have d2' : Obj.data _ = Data.cell none := d2
  clear d2
  (rename Obj.data _ = Data.cell (bindC _ _ _ _) => d1)
  have d1' : Obj.data _ = Data.cell none := d1
  clear d1
  dsimp only
  generalize hLe : s₁.heap.objs.size = L at *
  rename_i o1 o2 o3 N0
  have mk : StopMark := trivial
  k_steps
  all_goals (try dsimp only)
  unfold Stop
  (with_reducible rename Fr _ _ _ _ => F3)
  (with_reducible rename News _ _ _ _ => N3)
  refine wpAny_mono (Q := fun v s' => ∃ D vs' ns' n' h' tk, v = .ref D ∧ s' = { s₁ with heap := h', toks := tk } ∧ Fr s₁.heap L h' (fun y => if y = Str.ofString "script" then some (.ref l) else none) ∧ News s₁.heap L h' [(D, listOf (List.toArray vs') n'), (L + 1 + 1 + 1, o1), (L + 1 + 1, o2), (L + 1, o3)] ∧ (@LT.lt Nat _ (L + 1 + 1 + 1) D) ∧ IntsAre vs' ns' ∧ ns'.length ≤ 6) ?_ ?_ (fun _ _ e => e)
  · k_steps
    all_goals (try dsimp only)
    unfold Stop
    (with_reducible rename Fr _ _ _ _ => F4)
    (with_reducible rename News _ _ _ _ => N4)
    refine truthy_ints_fit (keepL F4.keep hL) hI (Nat.lt_of_le_of_lt hlen (by decide)) ?_
    by_cases hz : 0 < ns.length
    · rw [decide_eq_true hz, if_pos rfl]
      k_steps
      all_goals (try dsimp only)
      unfold Stop
      (with_reducible rename Fr _ _ _ _ => F5)
      (with_reducible rename News _ _ _ _ => N5)
      refine kba_turn (value' := Expr.Name (Str.ofString "_") ⟨0, 0, 0, 0⟩) (fun _ => rfl) ?_
      refine kmk_slice_ints (s := ⟨_, _, _, _, _⟩) F5 N5 (keepL F5.keep hL) IsPart.none (IsPart.int 6 _) hI (kmk_upto hI (by decide)) rfl (fun D ws h' F6 N6 l6 hI6 hc6 _ => ?_) (by with_unfolding_all rfl) (by intro _; with_unfolding_all rfl) (by rw [List.size_toArray, sizeLine_eq, hI.length]; omega)
      exact ⟨D, ws, _, 0, h', _, rfl, rfl, F6, N6, l6 _ (.head _), hI6, by simp; omega⟩
    · rw [decide_eq_false hz, if_neg Bool.false_ne_true]
      k_steps
      all_goals (try dsimp only)
      unfold Stop
      (with_reducible rename Fr _ _ _ _ => F5)
      (with_reducible rename News _ _ _ _ => N5)
      have hI9 : ∀ a b c d e f, IntsAre [.int 5852 a, .int 2777 b, .int 212 c, .int 282 d, .int 559 e, .int 230 f] [5852, 2777, 212, 282, 559, 230] := fun a b c d e f => .cons _ _ (.cons _ _ (.cons _ _ (.cons _ _ (.cons _ _ (.cons _ _ .nil)))))
      refine kba_turn (value' := Expr.Name (Str.ofString "_") ⟨0, 0, 0, 0⟩) (fun _ => rfl) ?_
      refine kmk_slice_ints (s := ⟨_, _, _, _, _⟩) F5 N5 (News.isList N5 (.head _)) IsPart.none (IsPart.int 6 _) (hI9 _ _ _ _ _ _) (kmk_upto (hI9 _ _ _ _ _ _) (by decide)) rfl (fun D ws h' F6 N6 l6 hI6 hc6 _ => ?_) (by with_unfolding_all rfl) (by intro _; with_unfolding_all rfl) (by rw [sizeLine_eq]; simp)
      refine ⟨D, ws, _, 0, h', _, rfl, rfl, F6, fun p hp => N6 p ?_, l6 _ (.tail _ (.head _)), hI6, by simp⟩
      simp only [List.mem_cons, List.not_mem_nil, or_false] at hp ⊢
      rcases hp with h | h | h | h <;> simp [h]
  · rintro v s' ⟨D, vs', ns', n', h', tk', rfl, rfl, F4, N4, l4, hI4, hl6⟩
    clear F3 N3
    (try dsimp only)
    obtain ⟨rst, hrst⟩ : ∃ r, [(D, listOf (List.toArray vs') n')] = r := ⟨_, rfl⟩
    have N5 : News s₁.heap L h' ((L + 1 + 1 + 1, o1) :: (L + 1 + 1, o2) :: (L + 1, o3) :: rst) := fun p hp => N4 p (by
      rw [← hrst] at hp
      simp only [List.mem_cons, List.not_mem_nil, or_false] at hp ⊢
      rcases hp with h | h | h | h <;> simp [h])
    have hmD : (D, listOf (List.toArray vs') n') ∈ rst := by rw [← hrst]; exact .head _
    clear N4
    k_steps
    all_goals (try dsimp only)
    unfold Stop
    (with_reducible rename Fr _ _ _ _ => F6)
    (with_reducible rename News _ _ _ _ => N6)
    refine drawn_spec (KX.keeps F6.keep) (Top.keeps T F6.keep) (by decide) (isListOf (drop3 N6) hmD) hI4 hl6 ?_
    intro TD T0 T1 AS a0 a1 as n0 n1 na tps h7 tk7 hk7 he7 hr0 hr1 hp0 hz0 hp1 hz1 hpa hza htc hai
    have F7 := Fr.keptAll F6 hk7
    have N7 := News.more F6 (News.grown N6 hk7) he7
    obtain ⟨rst2, hrst2⟩ : ∃ r, rst ++ ((TD, tupOf #[.ref T0, .ref T1, .ref AS]) :: (T0, listOf a0.toArray n0) :: (T1, listOf a1.toArray n1) :: (AS, listOf as.toArray na) :: tps) = r := ⟨_, rfl⟩
    have hoff0 : OwnOff rst [L + 1 + 1 + 1, L + 1 + 1, L + 1] := by
      rw [← hrst]
      intro p hp b hb
      rw [List.mem_singleton.mp hp]
      simp only [List.mem_cons, List.not_mem_nil, or_false] at hb
      rcases hb with e | e | e <;> (subst e; refine neN ?_; (try dsimp only); omega)
    have hoff2 : OwnOff rst2 [L + 1 + 1 + 1, L + 1 + 1, L + 1] := by
      rw [← hrst2]
      exact OwnOff.app hoff0 (OwnOff.sub (off_fresh (fun p hp => (he7 p hp).2) N6) off3)
    simp only [List.cons_append] at N7
    rw [hrst2] at N7
    have hm2 : ∀ p ∈ ((TD, tupOf #[.ref T0, .ref T1, .ref AS]) :: (T0, listOf a0.toArray n0) :: (T1, listOf a1.toArray n1) :: (AS, listOf as.toArray na) :: tps), p ∈ rst2 := fun p hp => by rw [← hrst2]; exact List.mem_append.mpr (.inr hp)
    have mTD := hm2 _ (.head _)
    have mT0 := hm2 _ (.tail _ (.head _))
    have mT1 := hm2 _ (.tail _ (.tail _ (.head _)))
    have mAS := hm2 _ (.tail _ (.tail _ (.tail _ (.head _))))
    obtain ⟨ps, hPL, hrp⟩ := asks_pairs hai
    have hPL2 : PairsL rst2 as ps := hPL.sub fun p hp => hm2 p (.tail _ (.tail _ (.tail _ (.tail _ hp))))
    have hal : as.length = ps.length := hPL.1
    clear F6 N6 he7 hk7 hai hPL hm2
    (try k_unmd)
    (try dsimp only)
    k_steps
    all_goals (try dsimp only)
    unfold Stop
    (with_reducible rename Fr _ _ _ _ => F8)
    (with_reducible rename News _ _ _ _ => N8)
    refine twice_spec (KX.keeps F8.keep) (Top.keeps T F8.keep) (by decide) (isListOf (drop3 N8) mAS) (PairsL.toAt (fun p hp => (drop3 N8 p hp).1) hPL2) (by omega) ?_
    intro D2 zs tps2 h9 tk9 hk9 he9 hpl9
    have F9 := Fr.keptAll F8 hk9
    have N9 := News.more F8 (News.grown N8 hk9) he9
    obtain ⟨rst3, hrst3⟩ : ∃ r, rst2 ++ ((D2, listOf (as ++ zs).toArray 0) :: tps2) = r := ⟨_, rfl⟩
    have hoff3 : OwnOff rst3 [L + 1 + 1 + 1, L + 1 + 1, L + 1] := by
      rw [← hrst3]
      exact OwnOff.app hoff2 (OwnOff.sub (off_fresh (fun p hp => (he9 p hp).2) N8) off3)
    simp only [List.cons_append] at N9
    rw [hrst3] at N9
    have hm3 : ∀ p ∈ rst2, p ∈ rst3 := fun p hp => by rw [← hrst3]; exact List.mem_append.mpr (.inl hp)
    have hm3' : ∀ p ∈ ((D2, listOf (as ++ zs).toArray 0) :: tps2), p ∈ rst3 := fun p hp => by rw [← hrst3]; exact List.mem_append.mpr (.inr hp)
    have mD2 := hm3' _ (.head _)
    have hPL3 : PairsL rst3 (as ++ zs) (ps ++ turned ps) := PairsL.app (hPL2.sub hm3) (hpl9.sub fun p hp => hm3' p (.tail _ hp))
    have mT0' := hm3 _ mT0
    have mT1' := hm3 _ mT1
    have mAS' := hm3 _ mAS
    have hPL2' := hPL2.sub hm3
    clear F8 N8 he9 hk9 hpl9 hoff0 hoff2 mTD mT0 mT1 mAS hm3 hm3' hPL2
    (try k_unmd)
    (try dsimp only)
    k_steps
    all_goals (try dsimp only)
    unfold Stop
    (with_reducible rename Fr _ _ _ _ => F10)
    (with_reducible rename News _ _ _ _ => N10)
    refine' comp_assignS (h₀ := s₁.heap) ?hsw ?hclos ?hcell ?hkind ?hnames ?hs ?hL ?hy ?hp ?_
    case hsw => with_unfolding_all rfl
    case hclos => exact rfl
    case hcell => decide
    case hkind => exact rfl
    case hnames => decide
    case hs => (intro _; rfl)
    case hL => exact rfl
    case hy => exact rfl
    case hp => exact rfl
    k_steps
    unfold Stop
    rename IsRange _ _ _ _ _ _ _ _ => hR11
    (with_reducible rename Fr _ _ _ _ => F11)
    (with_reducible rename News _ _ _ _ => N11)
    refine ⟨_, F11, src_rangeNK (n := 4) (MadeG w a0 a1) rfl hR11 (by decide) ?_ rfl rfl ?_ ?_⟩
    · intro b hb
      rw [List.mem_singleton.mp hb]
      obtain ⟨o, _, _, ho, _⟩ := F11.ns
      exact ⟨o, ho⟩
    · intro i ti C h12 tk12 m12 own E' hi4 FC NC
      have X' := KX.keeps F11.keep
      have T' := Top.keeps T F11.keep
      have hhi : ((i : Nat) : Int) = 0 ∨ ((i : Nat) : Int) = 1 ∨ ((i : Nat) : Int) = 2 ∨ ((i : Nat) : Int) = 3 := by omega
      k_steps
      all_goals (try dsimp only)
      unfold Stop
      (with_reducible rename Fr _ _ _ _ => FD)
      (with_reducible rename News _ _ _ _ => ND)
      refine made_spec hhi (X'.keeps FD.keep) (Top.keeps T' FD.keep) (by decide) (keepL FD.keep (isListOf (drop3 N11) mT0')) (keepL FD.keep (isListOf (drop3 N11) mT1')) hr0 hr1 hp0 hz0 hz1 ?_
      intro x dx S DL IG so io c t1 t2 t3 t5 vals nd h13 tk13 hk13 he13 g1 g2 g3 g4 hso hc hio hlo hvl hvj
      have FE := Fr.keptAll FD hk13
      have NE := News.more FD (News.grown ND hk13) he13
      refine ⟨h13, tk13, _, _, rdr w x dx S DL IG so (listOf (List.toArray vals) nd) io t1 t2 t3, rfl, FE, NE, fun p hp => List.mem_append.mpr (.inl hp), fun p hp => ⟨List.mem_append.mpr (.inr hp), fun q hq e => ?_⟩, ?_⟩
      · have h1 := (ND q hq).1
        rw [e, (he13 p hp).2] at h1; cases h1
      · exact ⟨x, dx, S, DL, IG, so, io, c, t1, t2, t3, t5, vals, nd, rfl, rfl, g1, g2, g3, g4, hso, hio, hlo, hvl, hvj⟩
    · intro D3 h12 tk12 ys fps hD3 hpl hy hf hG hF hPw hk hNs
      dsimp only
      have F12 := assigned F11 hk hNs
      have N12 := News.butL N11 hk
      obtain ⟨nr, hD3g⟩ := hpl
      have hE3 : ∀ p ∈ (D3, listOf ys nr) :: fps.flatten, h12.get? p.1 = some p.2 ∧ (_ : Heap).get? p.1 = none := fun p hp => by
        rcases List.mem_cons.mp hp with rfl | hp
        · exact ⟨hD3g, hD3⟩
        · obtain ⟨f, hf, hpf⟩ := List.mem_flatten.mp hp
          obtain ⟨a1, _, a3⟩ := hF f hf p hpf
          exact ⟨a3, a1⟩
      have N13 := News.more F11 N12 hE3
      obtain ⟨rst4, hrst4⟩ : ∃ r, rst3 ++ ((D3, listOf ys nr) :: fps.flatten) = r := ⟨_, rfl⟩
      have hoff4 : OwnOff rst4 [L + 1 + 1 + 1, L + 1 + 1, L + 1] := by
        rw [← hrst4]
        exact OwnOff.app hoff3 (OwnOff.sub (off_fresh (fun p hp => (hE3 p hp).2) N11) off3)
      have hfr4 : ∀ p ∈ rst3, ∀ q ∈ fps.flatten, p.1 ≠ q.1 := by
        intro p hp q hq e
        have h1 := (drop3 N11 p hp).1
        rw [e, (hE3 q (.tail _ hq)).2] at h1; cases h1
      simp only [List.cons_append] at N13
      rw [hrst4] at N13
      have hm4 : ∀ p ∈ rst3, p ∈ rst4 := fun p hp => by rw [← hrst4]; exact List.mem_append.mpr (.inl hp)
      have hm4' : ∀ p ∈ ((D3, listOf ys nr) :: fps.flatten), p ∈ rst4 := fun p hp => by rw [← hrst4]; exact List.mem_append.mpr (.inr hp)
      have hG4 : ∀ k, k < 4 → ∃ y f, ys[k]? = some y ∧ fps[k]? = some f ∧ MadeG w a0 a1 k y f := fun k hk => comp_all hy hf hG k hk
      clear N12 N11 F11
      (try k_unmd)
      (try dsimp only)
      k_steps
      all_goals (try dsimp only)
      rename_i g1 hh1 lt1 g2 hh2 lt2 g3 hh3 lt3 g4 hh4 lt4' SG hh5 lt5 hh6 F14 N14
      unfold Stop
      have hPA : ∀ {h : Heap}, (∀ p ∈ rst4, h.get? p.1 = some p.2) → PairsAt h as ps := fun he => PairsL.toAt (fun p hp => he p (hm4 p hp)) hPL2'
      refine safe_spec (KX.keeps F14.keep) (Top.keeps T F14.keep) (by decide) (by decide) (isListOf (drop8 N14) (hm4 _ mAS')) (hPA fun p hp => (drop8 N14 p hp).1) hrp (by omega) ?_
      intro h15 tk15 hk15
      have F15 := Fr.keptAll F14 hk15
      have N15 := News.grown N14 hk15
      clear F14 N14 hk15
      (try k_unmd)
      (try dsimp only)
      k_steps
      all_goals (try dsimp only)
      (with_reducible rename Fr _ _ _ _ => F16)
      (with_reducible rename News _ _ _ _ => N16)
      unfold Stop
      obtain ⟨R, hR⟩ := choice4 (P := fun k (r : RdT) => ys[k]? = some (.ref r.x) ∧ fps[k]? = some (rdr w r.x r.dx r.S r.DL r.IG r.so (listOf (List.toArray r.vals) r.nd) r.io r.t1 r.t2 r.t3) ∧ (@LT.lt Nat _ r.dx r.x ∧ @LT.lt Nat _ r.x r.S ∧ @LT.lt Nat _ r.S r.DL ∧ @LT.lt Nat _ r.DL r.IG) ∧
        SetLO PG w r.so (among (fun j => spell k (rowOf (a0.getD j .none))) a0.length) r.c ∧ r.io.IsDictOf (PySem.strKind PG w) [(Str.ofString "<string>", Value.int 1 r.t5)] ∧ (r.IG == sysModules) = false ∧
        r.vals.length = a1.length ∧ ∀ j, j < a1.length → ∃ t, r.vals[j]? = some (.str (spell k (rowOf (a1.getD j .none))) t)) (fun k hk => by
          obtain ⟨y, f, e1, e2, x, dx, S, DL, IG, so, io, c, t1, t2, t3, t5, vals, nd, rfl, rfl, q1, q2, q3, q4, q5, q6, q7, q8, q9⟩ := hG4 k hk
          exact ⟨⟨x, dx, S, DL, IG, so, io, c, t1, t2, t3, t5, vals, nd⟩, e1, e2, ⟨q1, q2, q3, q4⟩, q5, q6, q7, q8, q9⟩)
      have hfl : ∀ k, k < 4 → ∀ p ∈ rdr w (R k).x (R k).dx (R k).S (R k).DL (R k).IG (R k).so (listOf (List.toArray (R k).vals) (R k).nd) (R k).io (R k).t1 (R k).t2 (R k).t3, p ∈ fps.flatten := fun k hk p hp => List.mem_flatten.mpr ⟨_, List.mem_of_getElem? (hR k hk).2.1, hp⟩
      have hdis : ∀ j k, j < 4 → k < 4 → j ≠ k → ∀ p ∈ rdr w (R j).x (R j).dx (R j).S (R j).DL (R j).IG (R j).so (listOf (List.toArray (R j).vals) (R j).nd) (R j).io (R j).t1 (R j).t2 (R j).t3, ∀ q ∈ rdr w (R k).x (R k).dx (R k).S (R k).DL (R k).IG (R k).so (listOf (List.toArray (R k).vals) (R k).nd) (R k).io (R k).t1 (R k).t2 (R k).t3, p.1 ≠ q.1 := by
        intro j k hj hk hne p hp q hq
        have ej := List.getElem?_eq_some_iff.mp (hR j hj).2.1
        have ek := List.getElem?_eq_some_iff.mp (hR k hk).2.1
        obtain ⟨lj, ej⟩ := ej
        obtain ⟨lk, ek⟩ := ek
        rcases Nat.lt_or_gt_of_ne hne with h | h
        · exact List.pairwise_iff_getElem.mp hPw j k lj lk h p (by rw [ej]; exact hp) q (by rw [ek]; exact hq)
        · exact (List.pairwise_iff_getElem.mp hPw k j lk lj h q (by rw [ek]; exact hq) p (by rw [ej]; exact hp)).symm
      have hys : ys = #[.ref (R 0).x, .ref (R 1).x, .ref (R 2).x, .ref (R 3).x] := list4 (x := fun k => (R k).x) hy (fun k hk => (hR k hk).1)
      have N4 := drop8 N16
      refine told_spec (h₀ := s₁.heap) (x := fun k => (R k).x) (dx := fun k => (R k).dx) (S := fun k => (R k).S) (DL := fun k => (R k).DL) (IG := fun k => (R k).IG) (io := fun k => (R k).io) (kvs := fun k => [(Str.ofString "<string>", Value.int 1 (R k).t5)]) (f := fun _ => memo0) (ml := fun k => spL k a0) (dl := fun k => spL k a1) KX T F16.keep (fun k hk => ?_) ?_ (isListOf N4 (hm4 _ mAS')) (hPA fun p hp => (N4 p hp).1) hrp (by omega) (fun _ _ => by simp) ?_ ?_ (by decide) ?_
      · obtain ⟨_, _, ⟨q1, q2, q3, q4⟩, q5, q6, q7, q8, q9⟩ := hR k hk
        exact made_reader (L := L) (fun p hp => N4 p (hm4' p (.tail _ (hfl k hk p hp)))) q1 q2 q3 q4 q5 q6 q7 q8 q9 hr0 hr1
      · have := isListOf N4 (hm4' _ (.head _))
        rw [hys] at this
        exact this
      · intro j k hj hk hne
        exact hdis j k hj hk hne _ (.head _) _ (.head _)
      · intro j k hj hk
        by_cases e : j = k
        · subst e
          obtain ⟨_, _, ⟨q1, q2, q3, q4⟩, _⟩ := hR j hj
          exact neN (by omega)
        · exact hdis j k hj hk e _ (.tail _ (.tail _ (.tail _ (.tail _ (.head _))))) _ (.head _)
      · intro AN A0 A1 A2 A3 ls ns9 h17 tk17 d17 hkb hAN hA4
        have hIf : ∀ k, k < 4 → ((R k).IG, (R k).io) ∈ fps.flatten := fun k hk => hfl k hk _ (.head _)
        have hIn : ∀ a ∈ [(R 0).IG, (R 1).IG, (R 2).IG, (R 3).IG], ∃ k, k < 4 ∧ a = (R k).IG := by
          intro a ha
          simp only [List.mem_cons, List.not_mem_nil, or_false] at ha
          rcases ha with rfl | rfl | rfl | rfl
          · exact ⟨0, by decide, rfl⟩
          · exact ⟨1, by decide, rfl⟩
          · exact ⟨2, by decide, rfl⟩
          · exact ⟨3, by decide, rfl⟩
        have hI4 : ∀ k, k < 4 → ((R k).IG, (R k).io) ∈ rst4 := fun k hk => hm4' _ (.tail _ (hIf k hk))
        have hq : ∀ b ∈ [SG, g4, g3, g2, g1, L + 1 + 1 + 1, L + 1 + 1, L + 1], ∀ k, k < 4 → b ≠ (R k).IG := List.forall_mem_cons.mpr ⟨fun k hk e => AllLt.ne lt5.2.2.2.2.2.2.2 _ (hI4 k hk) e.symm, List.forall_mem_cons.mpr ⟨fun k hk e => AllLt.ne lt4'.2.2.2.2.2.2 _ (hI4 k hk) e.symm,
          List.forall_mem_cons.mpr ⟨fun k hk e => AllLt.ne lt3.2.2.2.2.2 _ (hI4 k hk) e.symm, List.forall_mem_cons.mpr ⟨fun k hk e => AllLt.ne lt2.2.2.2.2 _ (hI4 k hk) e.symm, List.forall_mem_cons.mpr ⟨fun k hk e => AllLt.ne lt1.2.2.2 _ (hI4 k hk) e.symm,
          List.forall_mem_cons.mpr ⟨fun k hk e => hoff4 _ (hI4 k hk) _ (.head _) e.symm, List.forall_mem_cons.mpr ⟨fun k hk e => hoff4 _ (hI4 k hk) _ (.tail _ (.head _)) e.symm, List.forall_mem_cons.mpr ⟨fun k hk e => hoff4 _ (hI4 k hk) _ (.tail _ (.tail _ (.head _))) e.symm, fun _ h => nomatch h⟩⟩⟩⟩⟩⟩⟩⟩
        have hne : ∀ b ∈ [SG, g4, g3, g2, g1, L + 1 + 1 + 1, L + 1 + 1, L + 1], b ∉ [(R 0).IG, (R 1).IG, (R 2).IG, (R 3).IG] := fun b hb ha => by
          obtain ⟨k, hk, e⟩ := hIn b ha
          exact hq b hb k hk e
        have hLn : L ∉ [(R 0).IG, (R 1).IG, (R 2).IG, (R 3).IG] := by
          intro hL'
          obtain ⟨k, hk, e⟩ := hIn L hL'
          exact (N4 _ (hm4' _ (.tail _ (hIf k hk)))).2.1 e.symm
        have F17 := Fr.but F16 hkb hLn (fun a ha => by
          obtain ⟨k, hk, rfl⟩ := hIn a ha
          exact (N4 _ (hm4' _ (.tail _ (hIf k hk)))).2.2)
        have N17 := News.but8 (r' := rst3) N16 hkb (fun b hb => hne b hb) (fun p hp => ⟨hm4 p hp, fun ha => by
          obtain ⟨k, hk, e⟩ := hIn p.1 ha
          exact hfr4 p hp _ (hIf k hk) e⟩)
        clear F16 N16 N4
        have hqs : (ps ++ turned ps).length = 2 * ps.length := by simp [turned_len]; omega
        have hP17 : PairsAt h17 (as ++ zs) (ps ++ turned ps) := PairsL.toAt (fun p hp => (drop8 N17 p hp).1) hPL3
        have hD17 := isListOf (drop8 N17) mD2
        have hT0 := isListOf (drop8 N17) mT0'
        have hT1 := isListOf (drop8 N17) mT1'
        (try k_unmd)
        (try dsimp only)
        k_steps
        all_goals (try dsimp only)
        unfold Stop
        (with_reducible rename Fr _ _ _ _ => F18)
        (with_reducible rename News _ _ _ _ => N18)
        have hs1 : IsTup h17 g1 _ := isTupOf N18 (.tail _ (.tail _ (.tail _ (.tail _ (.head _)))))
        have hs2 : IsTup h17 g2 _ := isTupOf N18 (.tail _ (.tail _ (.tail _ (.head _))))
        have hs3 : IsTup h17 g3 _ := isTupOf N18 (.tail _ (.tail _ (.head _)))
        have hs4 : IsTup h17 g4 _ := isTupOf N18 (.tail _ (.head _))
        refine src_list2 (DueG w a0 a1 (ps ++ turned ps)) rfl (isListOf N18 (.head _)) (by rw [sizeLine_eq]; simp) (by intro b hb; cases hb) rfl rfl rfl ?_ ?_ ?_
        · intro v hv
          simp only [List.mem_cons, List.not_mem_nil, or_false] at hv
          rcases hv with rfl | rfl | rfl | rfl
          · exact ⟨g1, _, _, rfl, hs1⟩
          · exact ⟨g2, _, _, rfl, hs2⟩
          · exact ⟨g3, _, _, rfl, hs3⟩
          · exact ⟨g4, _, _, rfl, hs4⟩
        · intro j T9 x9 y9 C h19 tk19 m19 own E' hv9 hT9 FC NC
          obtain ⟨hj4, tx, ty, rfl, rfl⟩ := sign_at hs1 hs2 hs3 hs4 hv9 hT9
          have X' := KX.keeps F18.keep
          have T' := Top.keeps T F18.keep
          k_steps
          all_goals (try dsimp only)
          unfold Stop
          (with_reducible rename Fr _ _ _ _ => FD)
          (with_reducible rename News _ _ _ _ => ND)
          refine due_spec (X'.keeps FD.keep) (Top.keeps T' FD.keep) (by decide) (keepL FD.keep hD17) (PairsAt.keeps FD.keep hP17) hrp.twice (by rw [hqs]; omega) (keepL FD.keep hT0) (keepL FD.keep hT1) hr0 hr1 ?_
          intro D5 us n5 h20 tk20 hk20 hD5 hn5 hus huj
          have FE := Fr.keptAll FD hk20
          have NE := News.more (ents := [(D5, listOf us n5)]) FD (News.grown ND hk20) (fun p hp => by rw [List.mem_singleton.mp hp]; exact ⟨hD5, hn5⟩)
          refine ⟨h20, tk20, _, _, [(D5, listOf us n5)], rfl, FE, NE, fun p hp => List.mem_append.mpr (.inl hp), fun p hp => ⟨List.mem_append.mpr (.inr hp), fun q hq e => ?_⟩, ⟨D5, us, n5, rfl, rfl, hus, huj⟩⟩
          rw [List.mem_singleton.mp hp] at e
          have h1 := (ND q hq).1
          rw [e, hn5] at h1; cases h1
        · intro D6 h19 tk19 ys6 fps6 hD6 hpl6 hy6 hf6 hG6 hF6 hPw6 hk6
          dsimp only
          have hk6' : Keep h17 h19 := fun b o e => hk6 b o (by simp) e
          (try k_unmd)
          k_steps
          all_goals (try dsimp only)
          unfold Stop
          have hANl : h19.IsList AN #[.ref A0, .ref A1, .ref A2, .ref A3] := ⟨_, hk6' _ _ hAN, rfl, _, rfl⟩
          obtain ⟨nu6, hD6g⟩ := hpl6
          have hD6l : h19.IsList D6 ys6 := ⟨_, hD6g, rfl, _, rfl⟩
          refine PySem.SeqAt.eq_listAt (e := fun _ => true) hANl hD6l (by rw [hy6]; rfl) (show (7 : Nat) < cLine from by decide) ?_ ?_
          · intro j h1 h2
            have hj : j < 4 := by simpa using h1
            obtain ⟨y, f, e1, e2, D5, us, n5, rfl, rfl, hus, huj⟩ := comp_all hy6 hf6 hG6 j (by simpa using hj)
            have ei : (#[.ref A0, .ref A1, .ref A2, .ref A3] : Array Value)[j] = .ref (four A0 A1 A2 A3 j) := by
              revert h1
              exact lt4 (P := fun j => ∀ h1 : j < (#[.ref A0, .ref A1, .ref A2, .ref A3] : Array Value).size, (#[.ref A0, .ref A1, .ref A2, .ref A3] : Array Value)[j] = .ref (four A0 A1 A2 A3 j)) (fun _ => rfl) (fun _ => rfl) (fun _ => rfl) (fun _ => rfl) j hj
            have ey : ys6[j] = .ref D5 := by rw [Array.getElem?_eq_getElem h2] at e1; exact Option.some.inj e1
            rw [ei, ey]
            obtain ⟨hAj, hlj, haj⟩ := hA4 j hj
            obtain ⟨hn5, _, hg5⟩ := hF6 _ (List.mem_of_getElem? e2) _ (.head _)
            refine PySem.SeqAt.EqAt.of_refs (fun e => ?_) ?_
            · dsimp only at hn5
              rw [← e, hAj] at hn5; cases hn5
            · refine rc_true (PySem.SeqAt.RcAt.lists (e := fun _ => true) (items := (ls j).toArray) (items2 := us) ⟨_, hk6' _ _ hAj, rfl, _, rfl⟩ ⟨_, hg5, rfl, n5, rfl⟩ (by rw [hus, List.size_toArray, hlj, hqs]) (show (8 : Nat) < cLine from by decide) (fun p q1 q2 => ?_)) (by simp)
              have hp2 : p < 2 * ps.length := by rw [List.size_toArray, hlj] at q1; exact q1
              obtain ⟨ta, ea⟩ := haj p hp2
              obtain ⟨tb, eb⟩ := huj p (by rw [hqs]; exact hp2)
              have e3 : (ls j).toArray[p] = .str (ansS (ansF (spL j a0) (spL j a1) (qn (ps ++ turned ps) j) (qf (ps ++ turned ps) j) memo0 p)) ta := by
                have : (ls j).toArray[p]? = some (ls j).toArray[p] := Array.getElem?_eq_getElem q1
                rw [List.getElem?_toArray, ea] at this
                exact (Option.some.inj this).symm
              have e4 : us[p] = .str (ansS (dueAt (nmsOf (ps ++ turned ps)) (flsOf (ps ++ turned ps)) (a0.map rowOf) (a1.map rowOf) (dotOf j) (slashOf j) p)) tb := by
                rw [Array.getElem?_eq_getElem q2] at eb; exact Option.some.inj eb
              rw [e3, e4, plain_law hj hr0 hr1 hrp.twice (by rw [hqs]; exact hp2)]
              intro prog w' E' Q' hq
              refine wpAny_eqBool_str ?_
              simpa using hq
          · have e6 : ((List.range (#[.ref A0, .ref A1, .ref A2, .ref A3] : Array Value).size).all fun _ => true) = true := by simp
            rw [e6]
            (try dsimp only)
            k_steps
            all_goals (try dsimp only)
            refine ⟨.inl ⟨_, .bool true, [], rfl, fun _ => rfl, ReadsW.bool true, law_post _, fun _ => ⟨List.nodup_nil, fun a ha => nomatch ha⟩⟩, fun b o e => hk6' _ _ (F18.keep b o e), rfl, hg⟩
end Mine

end -- E4
set_option maxRecDepth 100000 in
theorem PySem.Challenge.cw_nq0028_01_holds : PySem.Challenge.rw_nq0028_01.Holds := by
  exact Mine.law_t
