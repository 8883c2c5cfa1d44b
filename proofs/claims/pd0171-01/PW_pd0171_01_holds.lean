import PyProof.Rows.All
import Wide.All
import OpenK.AllK
import Wide.FinOn
import PyProof.StrReplace2
import Lean
import PySem.Challenge.RW_pd0171_01
open PySem PySem.W PyProof.Rows
set_option Elab.async false
set_option maxRecDepth 100000
set_option maxHeartbeats 0
set_option rowWalk.seconds 0
set_option linter.unusedVariables false
set_option linter.unusedSimpArgs false
name_quick tw8075568018651887793 for PySem.W.S.findZ by PySem.W.S.findZ_eq
name_quick tw13432427884824800415 for PySem.W.S.findZ by PySem.W.S.findZ_eq
name_quick tw11206302069050236104 for PySem.W.S.findZ by PySem.W.S.findZ_eq
name_quick tw14979626087600564940 for PySem.W.S.findZ by PySem.W.S.findZ_eq
name_quick tw14956549838072327282 for PySem.W.S.findZ by PySem.W.S.findZ_eq
name_quick tw16661375180360627877 for PySem.W.S.findZ by PySem.W.S.findZ_eq
name_quick tw9225554623484653252 for PySem.W.S.findZ by PySem.W.S.findZ_eq
name_quick tw4016919884179927283 for PySem.W.S.findZ by PySem.W.S.findZ_eq
name_quick tw12609378947248592450 for PySem.W.S.findZ by PySem.W.S.findZ_eq
name_quick tw11277716924127702174 for PySem.W.S.findZ by PySem.W.S.findZ_eq
name_quick tw17828083071136270317 for PySem.W.S.findZ by PySem.W.S.findZ_eq
name_quick tw13729253559640862656 for PySem.W.S.findZ by PySem.W.S.findZ_eq
name_quick tw11727942616109797133 for PySem.W.S.findZ by PySem.W.S.findZ_eq
name_quick tw856264945809894966 for PySem.W.S.findZ by PySem.W.S.findZ_eq
name_quick tw9285146279643344392 for PySem.W.S.findZ by PySem.W.S.findZ_eq
name_quick tw11176043301313065506 for PySem.W.S.findZ by PySem.W.S.findZ_eq
name_quick tw17730448691065144110 for PySem.W.S.findZ by PySem.W.S.findZ_eq
name_quick tw8719427161674164953 for PySem.W.S.findZ by PySem.W.S.findZ_eq
name_quick tw2670528217467546775 for PySem.W.S.findZ by PySem.W.S.findZ_eq
name_quick tw11543547407058413889 for PySem.W.S.findZ by PySem.W.S.findZ_eq
name_quick tw1258717718454355964 for PySem.W.S.findZ by PySem.W.S.findZ_eq
name_quick tw6004533443673955352 for PySem.W.S.findZ by PySem.W.S.findZ_eq
name_quick tw6434138532213402376 for PySem.W.S.findZ by PySem.W.S.findZ_eq
name_quick tw16846860572762119324 for PySem.W.S.findZ by PySem.W.S.findZ_eq
name_quick tw16548257151911338427 for PySem.W.S.findZ by PySem.W.S.findZ_eq
name_quick tw15168306246750427876 for PySem.W.S.findZ by PySem.W.S.findZ_eq
name_quick tw1402947280878808549 for PySem.W.S.findZ by PySem.W.S.findZ_eq
name_quick tw5268983451555188008 for PySem.W.S.findZ by PySem.W.S.findZ_eq
name_quick tw16916688483869632129 for PySem.W.S.findZ by PySem.W.S.findZ_eq
name_quick tw6250672158363226905 for PySem.W.S.findZ by PySem.W.S.findZ_eq
name_quick tw16817318245366136608 for PySem.W.S.findZ by PySem.W.S.findZ_eq
name_quick tw932993149863042379 for PySem.W.S.findZ by PySem.W.S.findZ_eq
name_quick tw8376441433122354887 for PySem.W.S.findZ by PySem.W.S.findZ_eq
name_quick tw17954471519018878134 for PySem.W.S.findZ by PySem.W.S.findZ_eq
name_quick tw3764465048917985505 for PySem.W.S.findZ by PySem.W.S.findZ_eq
name_quick tw219737044198020058 for PySem.W.S.findZ by PySem.W.S.findZ_eq
name_quick tw9759809726879904816 for PySem.W.S.findZ by PySem.W.S.findZ_eq
name_quick tw17476080006546285661 for PySem.W.S.findZ by PySem.W.S.findZ_eq
name_quick tw6683783046931543321 for PySem.W.S.findZ by PySem.W.S.findZ_eq
name_quick tw16350708796919097252 for PySem.W.S.findZ by PySem.W.S.findZ_eq
name_quick tw16241802466949684156 for PySem.W.S.findZ by PySem.W.S.findZ_eq
name_quick tw2611137233208623240 for PySem.W.S.findZ by PySem.W.S.findZ_eq
name_quick tw3560238982266916124 for PySem.W.S.findZ by PySem.W.S.findZ_eq
name_quick tw8555734327229750603 for PySem.W.S.findZ by PySem.W.S.findZ_eq
name_quick tw8595292554425487202 for PySem.W.S.findZ by PySem.W.S.findZ_eq
name_quick tw12635297910168745909 for PySem.W.S.findZ by PySem.W.S.findZ_eq
name_quick tw2627984346626558326 for PySem.W.S.findZ by PySem.W.S.findZ_eq
name_quick tw14386061602966655976 for PySem.W.S.findZ by PySem.W.S.findZ_eq
name_quick tw5721027456603625697 for PySem.W.S.findZ by PySem.W.S.findZ_eq
name_quick tw4658958612460137192 for PySem.W.S.findZ by PySem.W.S.findZ_eq
name_quick tw1962928258387122110 for PySem.W.S.findZ by PySem.W.S.findZ_eq
name_quick tw9467589175468403638 for PySem.W.S.findZ by PySem.W.S.findZ_eq
name_quick tw7392212959928792091 for PySem.W.S.findZ by PySem.W.S.findZ_eq
name_quick tw12659028871203227004 for PySem.W.S.findZ by PySem.W.S.findZ_eq
name_quick tw13145125596335152023 for PySem.W.S.findZ by PySem.W.S.findZ_eq
name_quick tw1377046205977697930 for PySem.W.S.findZ by PySem.W.S.findZ_eq
name_quick tw13559156169165276386 for PySem.W.S.findZ by PySem.W.S.findZ_eq
name_quick tw2664551874359636763 for PySem.W.S.findZ by PySem.W.S.findZ_eq
name_quick tw17975652961387846372 for PySem.W.S.findZ by PySem.W.S.findZ_eq
name_quick tw14884601019740666482 for PySem.W.S.findZ by PySem.W.S.findZ_eq
name_quick tw6817277305950994716 for PySem.W.S.findZ by PySem.W.S.findZ_eq
name_quick tw13759679279233594173 for PySem.W.S.findZ by PySem.W.S.findZ_eq
name_quick tw8119918657739134586 for PySem.W.S.findZ by PySem.W.S.findZ_eq
name_quick tw17532440430192770315 for PySem.W.S.findZ by PySem.W.S.findZ_eq
name_quick tw2283851925072248500 for PySem.W.S.findZ by PySem.W.S.findZ_eq
name_quick tw9132628772440929594 for PySem.W.S.findZ by PySem.W.S.findZ_eq
name_quick tw13317431791736044220 for PySem.W.S.findZ by PySem.W.S.findZ_eq
name_quick tw18220123701641295943 for PySem.W.S.findZ by PySem.W.S.findZ_eq
name_quick tw11939915149646268982 for PySem.W.S.findZ by PySem.W.S.findZ_eq
name_quick tw8206430501311747189 for PySem.W.S.findZ by PySem.W.S.findZ_eq
name_quick tw5529568453561195837 for PySem.W.S.findZ by PySem.W.S.findZ_eq
name_quick tw1829445100760108279 for PySem.W.S.findZ by PySem.W.S.findZ_eq
name_quick tw5396446701170858492 for PySem.W.S.findZ by PySem.W.S.findZ_eq
name_quick tw5770868932273138760 for PySem.W.S.findZ by PySem.W.S.findZ_eq
name_quick tw17730428716208468724 for PySem.W.S.findZ by PySem.W.S.findZ_eq
name_quick tw470574548607681690 for PySem.W.S.findZ by PySem.W.S.findZ_eq
name_quick tw151948405760981731 for PySem.W.S.findZ by PySem.W.S.findZ_eq
name_quick tw13254397897704925713 for PySem.W.S.findZ by PySem.W.S.findZ_eq
name_quick tw11566699232636054958 for PySem.W.S.findZ by PySem.W.S.findZ_eq
name_quick tw14126943448341045398 for PySem.W.S.findZ by PySem.W.S.findZ_eq
name_quick tw117213463901210413 for PySem.W.S.findZ by PySem.W.S.findZ_eq
name_quick tw17111948838632640456 for PySem.W.S.findZ by PySem.W.S.findZ_eq
name_quick tw14537914154153760125 for PySem.W.S.findZ by PySem.W.S.findZ_eq
name_quick tw7275051467321613617 for PySem.W.S.findZ by PySem.W.S.findZ_eq
name_quick tw10029231156530900338 for PySem.W.S.findZ by PySem.W.S.findZ_eq
name_quick tw8703263022893421829 for PySem.W.S.findZ by PySem.W.S.findZ_eq
name_quick tw16414604833108395602 for PySem.W.S.findZ by PySem.W.S.findZ_eq
name_quick tw10007627690174824804 for PySem.W.S.findZ by PySem.W.S.findZ_eq
name_quick tw15894407043143930727 for PySem.W.S.findZ by PySem.W.S.findZ_eq
name_quick tw4558998842232669794 for PySem.W.S.findZ by PySem.W.S.findZ_eq
name_quick tw7250012664060256230 for PySem.W.S.findZ by PySem.W.S.findZ_eq
name_quick tw14311459727803291754 for PySem.W.S.findZ by PySem.W.S.findZ_eq
name_quick tw15980859228951719591 for PySem.W.S.findZ by PySem.W.S.findZ_eq
name_quick tw6380047634161181297 for PySem.W.S.findZ by PySem.W.S.findZ_eq
name_quick tw1414301608579184545 for PySem.W.S.findZ by PySem.W.S.findZ_eq
name_quick tw8424611434330503625 for PySem.W.S.findZ by PySem.W.S.findZ_eq
name_quick tw10833955939284561965 for PySem.W.S.findZ by PySem.W.S.findZ_eq
name_quick tw1702518465993881591 for PySem.W.S.findZ by PySem.W.S.findZ_eq
name_quick tw11788150170368784547 for PySem.W.S.findZ by PySem.W.S.findZ_eq
name_quick tw43969757491396457 for PySem.W.S.findZ by PySem.W.S.findZ_eq
name_quick tw18056578402003937789 for PySem.W.S.findZ by PySem.W.S.findZ_eq
name_quick tw4090926877573551719 for PySem.W.S.findZ by PySem.W.S.findZ_eq
name_quick tw10996506086634736982 for PySem.W.S.findZ by PySem.W.S.findZ_eq
name_quick tw662354867322794072 for PySem.W.S.findZ by PySem.W.S.findZ_eq
namespace Mine
open_top hd for PySem.Challenge.rw_pd0171_01
local macro_rules | `(tactic| walk_at $s:str) => `(tactic| k_extra $s)
structure NeA (a b : Nat) : Prop where
  h : a ≠ b
theorem flat_int {M : Model} {A : Around} {E : Value → Shared → Prop} {hp : Heap} {g d k o} {env : Env} {i : Int} {kk pos} {Q : Value → Shared → Prop} (h : Q (.int i k) ⟨hp, g, d, k + 1, o⟩) :
    wpAny M A (eval (.Constant (.int i) kk pos) env) Q E ⟨hp, g, d, k, o⟩ := fun _ _ _ => h
theorem flat_str {M : Model} {A : Around} {E : Value → Shared → Prop} {hp : Heap} {g d k o} {env : Env} {x : Str} {kk pos} {Q : Value → Shared → Prop} (h : Q (.str x k) ⟨hp, g, d, k + 1, o⟩) :
    wpAny M A (eval (.Constant (.str x) kk pos) env) Q E ⟨hp, g, d, k, o⟩ := fun _ _ _ => h
theorem any_toks {α : Type} {M : Model} {A : Around} {T : Sem α} {Q : α → Shared → Prop} {E : Value → Shared → Prop} {hp : Heap} {g d k o} (h : ∀ k, wpAny M A T Q E ⟨hp, g, d, k, o⟩) : wpAny M A T Q E ⟨hp, g, d, k, o⟩ := h k
theorem rmL {x n a c L : Nat} (h : n + a < L) (e : x = n + c) (hb : Nat.ble c a = true) : x < L := by
  subst e; exact Nat.lt_of_le_of_lt (Nat.add_le_add_left (Nat.le_of_ble_eq_true hb) n) h
local macro_rules | `(tactic| k_ne) => `(tactic| (refine neN ?_; (try dsimp only); first | exact NeA.h (by with_reducible assumption) | exact Ne.symm (NeA.h (by with_reducible assumption)) | exact by with_reducible assumption | exact Ne.symm (by with_reducible assumption) | exact Nat.ne_of_gt (by with_reducible assumption) | exact Nat.ne_of_lt (by with_reducible assumption) | exact Nat.ne_of_gt (And.left ((by with_reducible assumption))) | exact NeA.h (And.left ((by with_reducible assumption))) | exact Nat.ne_of_lt (And.left ((by with_reducible assumption))) | exact Ne.symm (NeA.h (And.left ((by with_reducible assumption)))) | exact And.left ((by with_reducible assumption)) | exact Ne.symm (And.left ((by with_reducible assumption))) | exact Nat.ne_of_gt (And.left (And.right ((by with_reducible assumption)))) | exact NeA.h (And.left (And.right ((by with_reducible assumption)))) | exact Nat.ne_of_lt (And.left (And.right ((by with_reducible assumption)))) | exact Ne.symm (NeA.h (And.left (And.right ((by with_reducible assumption))))) | exact And.left (And.right ((by with_reducible assumption))) | exact Ne.symm (And.left (And.right ((by with_reducible assumption)))) | exact And.right ((by with_reducible assumption)) | exact Ne.symm (And.right ((by with_reducible assumption))) | exact Nat.ne_of_gt (And.left (And.right (And.right ((by with_reducible assumption))))) | exact NeA.h (And.left (And.right (And.right ((by with_reducible assumption))))) | exact Nat.ne_of_lt (And.left (And.right (And.right ((by with_reducible assumption))))) | exact Ne.symm (NeA.h (And.left (And.right (And.right ((by with_reducible assumption)))))) | exact And.left (And.right (And.right ((by with_reducible assumption)))) | exact Ne.symm (And.left (And.right (And.right ((by with_reducible assumption))))) | exact And.right (And.right ((by with_reducible assumption))) | exact Ne.symm (And.right (And.right ((by with_reducible assumption)))) | exact Nat.ne_of_gt (And.left (And.right (And.right (And.right ((by with_reducible assumption)))))) | exact NeA.h (And.left (And.right (And.right (And.right ((by with_reducible assumption)))))) | exact Nat.ne_of_lt (And.left (And.right (And.right (And.right ((by with_reducible assumption)))))) | exact Ne.symm (NeA.h (And.left (And.right (And.right (And.right ((by with_reducible assumption))))))) | exact And.left (And.right (And.right (And.right ((by with_reducible assumption))))) | exact Ne.symm (And.left (And.right (And.right (And.right ((by with_reducible assumption)))))) | exact And.right (And.right (And.right ((by with_reducible assumption)))) | exact Ne.symm (And.right (And.right (And.right ((by with_reducible assumption))))) | exact Nat.ne_of_gt (And.left (And.right (And.right (And.right (And.right ((by with_reducible assumption))))))) | exact NeA.h (And.left (And.right (And.right (And.right (And.right ((by with_reducible assumption))))))) | exact Nat.ne_of_lt (And.left (And.right (And.right (And.right (And.right ((by with_reducible assumption))))))) | exact Ne.symm (NeA.h (And.left (And.right (And.right (And.right (And.right ((by with_reducible assumption)))))))) | exact And.left (And.right (And.right (And.right (And.right ((by with_reducible assumption)))))) | exact Ne.symm (And.left (And.right (And.right (And.right (And.right ((by with_reducible assumption))))))) | exact Nat.ne_of_gt (And.left (And.right (And.right (And.right (And.right (And.right ((by with_reducible assumption)))))))) | exact NeA.h (And.left (And.right (And.right (And.right (And.right (And.right ((by with_reducible assumption)))))))) | exact Nat.ne_of_lt (And.left (And.right (And.right (And.right (And.right (And.right ((by with_reducible assumption)))))))) | exact Ne.symm (NeA.h (And.left (And.right (And.right (And.right (And.right (And.right ((by with_reducible assumption))))))))) | exact And.left (And.right (And.right (And.right (And.right (And.right ((by with_reducible assumption))))))) | exact Ne.symm (And.left (And.right (And.right (And.right (And.right (And.right ((by with_reducible assumption)))))))) | exact Nat.ne_of_gt (And.left (And.right (And.right (And.right (And.right (And.right (And.right ((by with_reducible assumption))))))))) | exact NeA.h (And.left (And.right (And.right (And.right (And.right (And.right (And.right ((by with_reducible assumption))))))))) | exact Nat.ne_of_lt (And.left (And.right (And.right (And.right (And.right (And.right (And.right ((by with_reducible assumption))))))))) | exact Ne.symm (NeA.h (And.left (And.right (And.right (And.right (And.right (And.right (And.right ((by with_reducible assumption)))))))))) | exact And.left (And.right (And.right (And.right (And.right (And.right (And.right ((by with_reducible assumption)))))))) | exact Ne.symm (And.left (And.right (And.right (And.right (And.right (And.right (And.right ((by with_reducible assumption))))))))) | exact Nat.ne_of_gt (And.left (And.right (And.right (And.right (And.right (And.right (And.right (And.right ((by with_reducible assumption)))))))))) | exact NeA.h (And.left (And.right (And.right (And.right (And.right (And.right (And.right (And.right ((by with_reducible assumption)))))))))) | exact Nat.ne_of_lt (And.left (And.right (And.right (And.right (And.right (And.right (And.right (And.right ((by with_reducible assumption)))))))))) | exact Ne.symm (NeA.h (And.left (And.right (And.right (And.right (And.right (And.right (And.right (And.right ((by with_reducible assumption))))))))))) | exact And.left (And.right (And.right (And.right (And.right (And.right (And.right (And.right ((by with_reducible assumption))))))))) | exact Ne.symm (And.left (And.right (And.right (And.right (And.right (And.right (And.right (And.right ((by with_reducible assumption)))))))))) | exact Nat.ne_of_gt (And.left (And.right (And.right (And.right (And.right (And.right (And.right (And.right (And.right ((by with_reducible assumption))))))))))) | exact NeA.h (And.left (And.right (And.right (And.right (And.right (And.right (And.right (And.right (And.right ((by with_reducible assumption))))))))))) | exact Nat.ne_of_lt (And.left (And.right (And.right (And.right (And.right (And.right (And.right (And.right (And.right ((by with_reducible assumption))))))))))) | exact Ne.symm (NeA.h (And.left (And.right (And.right (And.right (And.right (And.right (And.right (And.right (And.right ((by with_reducible assumption)))))))))))) | exact Nat.ne_of_gt (And.left (And.right (And.right (And.right (And.right (And.right (And.right (And.right (And.right (And.right ((by with_reducible assumption)))))))))))) | exact NeA.h (And.left (And.right (And.right (And.right (And.right (And.right (And.right (And.right (And.right (And.right ((by with_reducible assumption)))))))))))) | exact Nat.ne_of_lt (And.left (And.right (And.right (And.right (And.right (And.right (And.right (And.right (And.right (And.right ((by with_reducible assumption)))))))))))) | exact Ne.symm (NeA.h (And.left (And.right (And.right (And.right (And.right (And.right (And.right (And.right (And.right (And.right ((by with_reducible assumption))))))))))))) | exact Nat.ne_of_gt (And.left (And.right (And.right (And.right (And.right (And.right (And.right (And.right (And.right (And.right (And.right ((by with_reducible assumption))))))))))))) | exact NeA.h (And.left (And.right (And.right (And.right (And.right (And.right (And.right (And.right (And.right (And.right (And.right ((by with_reducible assumption))))))))))))) | exact Nat.ne_of_lt (And.left (And.right (And.right (And.right (And.right (And.right (And.right (And.right (And.right (And.right (And.right ((by with_reducible assumption))))))))))))) | exact Ne.symm (NeA.h (And.left (And.right (And.right (And.right (And.right (And.right (And.right (And.right (And.right (And.right (And.right ((by with_reducible assumption)))))))))))))) | exact Nat.ne_of_gt (And.left (And.right (And.right (And.right (And.right (And.right (And.right (And.right (And.right (And.right (And.right (And.right ((by with_reducible assumption)))))))))))))) | exact NeA.h (And.left (And.right (And.right (And.right (And.right (And.right (And.right (And.right (And.right (And.right (And.right (And.right ((by with_reducible assumption)))))))))))))) | exact Nat.ne_of_lt (And.left (And.right (And.right (And.right (And.right (And.right (And.right (And.right (And.right (And.right (And.right (And.right ((by with_reducible assumption)))))))))))))) | exact Ne.symm (NeA.h (And.left (And.right (And.right (And.right (And.right (And.right (And.right (And.right (And.right (And.right (And.right (And.right ((by with_reducible assumption))))))))))))))) | exact Nat.ne_of_gt (And.left (And.right (And.right (And.right (And.right (And.right (And.right (And.right (And.right (And.right (And.right (And.right (And.right ((by with_reducible assumption))))))))))))))) | exact NeA.h (And.left (And.right (And.right (And.right (And.right (And.right (And.right (And.right (And.right (And.right (And.right (And.right (And.right ((by with_reducible assumption))))))))))))))) | exact Nat.ne_of_lt (And.left (And.right (And.right (And.right (And.right (And.right (And.right (And.right (And.right (And.right (And.right (And.right (And.right ((by with_reducible assumption))))))))))))))) | exact Ne.symm (NeA.h (And.left (And.right (And.right (And.right (And.right (And.right (And.right (And.right (And.right (And.right (And.right (And.right (And.right ((by with_reducible assumption)))))))))))))))) | exact Nat.ne_of_gt (And.left (And.right (And.right (And.right (And.right (And.right (And.right (And.right (And.right (And.right (And.right (And.right (And.right (And.right ((by with_reducible assumption)))))))))))))))) | exact NeA.h (And.left (And.right (And.right (And.right (And.right (And.right (And.right (And.right (And.right (And.right (And.right (And.right (And.right (And.right ((by with_reducible assumption)))))))))))))))) | exact Nat.ne_of_lt (And.left (And.right (And.right (And.right (And.right (And.right (And.right (And.right (And.right (And.right (And.right (And.right (And.right (And.right ((by with_reducible assumption)))))))))))))))) | exact Ne.symm (NeA.h (And.left (And.right (And.right (And.right (And.right (And.right (And.right (And.right (And.right (And.right (And.right (And.right (And.right (And.right ((by with_reducible assumption))))))))))))))))) | exact And.left (And.left ((by with_reducible assumption))) | exact Ne.symm (And.left (And.left ((by with_reducible assumption)))) | exact And.left (And.right (And.left ((by with_reducible assumption)))) | exact Ne.symm (And.left (And.right (And.left ((by with_reducible assumption))))) | exact And.left (And.right (And.right (And.left ((by with_reducible assumption))))) | exact Ne.symm (And.left (And.right (And.right (And.left ((by with_reducible assumption)))))) | exact And.right (And.right (And.left ((by with_reducible assumption)))) | exact Ne.symm (And.right (And.right (And.left ((by with_reducible assumption))))) | exact And.left (And.left (And.right ((by with_reducible assumption)))) | exact Ne.symm (And.left (And.left (And.right ((by with_reducible assumption))))) | exact And.left (And.right (And.left (And.right ((by with_reducible assumption))))) | exact Ne.symm (And.left (And.right (And.left (And.right ((by with_reducible assumption)))))) | exact And.left (And.right (And.right (And.left (And.right ((by with_reducible assumption)))))) | exact Ne.symm (And.left (And.right (And.right (And.left (And.right ((by with_reducible assumption))))))) | exact And.right (And.right (And.left (And.right ((by with_reducible assumption))))) | exact Ne.symm (And.right (And.right (And.left (And.right ((by with_reducible assumption)))))) | exact And.left (And.left (And.right (And.right ((by with_reducible assumption))))) | exact Ne.symm (And.left (And.left (And.right (And.right ((by with_reducible assumption)))))) | exact And.left (And.right (And.left (And.right (And.right ((by with_reducible assumption)))))) | exact Ne.symm (And.left (And.right (And.left (And.right (And.right ((by with_reducible assumption))))))) | exact And.left (And.right (And.right (And.left (And.right (And.right ((by with_reducible assumption))))))) | exact Ne.symm (And.left (And.right (And.right (And.left (And.right (And.right ((by with_reducible assumption)))))))) | exact And.right (And.right (And.left (And.right (And.right ((by with_reducible assumption)))))) | exact Ne.symm (And.right (And.right (And.left (And.right (And.right ((by with_reducible assumption))))))) | exact And.left (And.left (And.right (And.right (And.right ((by with_reducible assumption)))))) | exact Ne.symm (And.left (And.left (And.right (And.right (And.right ((by with_reducible assumption))))))) | exact And.left (And.right (And.left (And.right (And.right (And.right ((by with_reducible assumption))))))) | exact Ne.symm (And.left (And.right (And.left (And.right (And.right (And.right ((by with_reducible assumption)))))))) | exact And.left (And.right (And.right (And.left (And.right (And.right (And.right ((by with_reducible assumption)))))))) | exact Ne.symm (And.left (And.right (And.right (And.left (And.right (And.right (And.right ((by with_reducible assumption))))))))) | exact And.right (And.right (And.left (And.right (And.right (And.right ((by with_reducible assumption))))))) | exact Ne.symm (And.right (And.right (And.left (And.right (And.right (And.right ((by with_reducible assumption)))))))) | omega))
local macro_rules | `(tactic| ktr_room) => `(tactic| (k_dflt first | exact rmL (c := 1) (by with_reducible assumption) rfl rfl | exact rmL (c := 2) (by with_reducible assumption) rfl rfl | exact rmL (c := 3) (by with_reducible assumption) rfl rfl | exact rmL (c := 4) (by with_reducible assumption) rfl rfl | exact rmL (c := 5) (by with_reducible assumption) rfl rfl | exact rmL (c := 6) (by with_reducible assumption) rfl rfl | exact rmL (c := 7) (by with_reducible assumption) rfl rfl | exact rmL (c := 8) (by with_reducible assumption) rfl rfl))
local macro_rules | `(tactic| ktr_units) => `(tactic| (k_dflt first | exact rmL (c := 64) (by with_reducible assumption) rfl rfl | exact rmL (c := 67) (by with_reducible assumption) rfl rfl | exact rmL (c := 24) (by with_reducible assumption) rfl rfl | exact rmL (c := 27) (by with_reducible assumption) rfl rfl | exact rmL (c := 8) (by with_reducible assumption) rfl rfl | exact rmL (c := 11) (by with_reducible assumption) rfl rfl | exact rmL (c := 16) (by with_reducible assumption) rfl rfl | exact rmL (c := 19) (by with_reducible assumption) rfl rfl | exact rmL (c := 12) (by with_reducible assumption) rfl rfl | exact rmL (c := 15) (by with_reducible assumption) rfl rfl | exact rmL (c := 1) (by with_reducible assumption) rfl rfl | exact rmL (c := 2) (by with_reducible assumption) rfl rfl | exact rmL (c := 3) (by with_reducible assumption) rfl rfl | exact rmL (c := 4) (by with_reducible assumption) rfl rfl | exact rmL (c := 5) (by with_reducible assumption) rfl rfl | exact rmL (c := 6) (by with_reducible assumption) rfl rfl | exact rmL (c := 7) (by with_reducible assumption) rfl rfl))
section
open PySem PySem.W PyProof.Rows PySem.Calls PySem.Spec
set_option maxRecDepth 100000
set_option maxHeartbeats 400000

theorem issubn_kind : builtinKind "issubclass.nested" = none := by decide +kernel
theorem issubn_plain : plainId "issubclass.nested" = true := by decide +kernel
theorem issubn_args (a b c : Value) : argsOk "issubclass.nested" ⟨[a, b, c], []⟩ := by unfold argsOk; kernel_rfl

theorem issubn_str (d : Int) (tk : Tok) : Meets (Builtin.«issubclass.nested» ⟨[.type "str", .type "str", .int d tk], []⟩) (fun _ R s => ∀ tk', R (.ok (.ret (.bool true))) { s with toks := tk' }) := by
  intro prog w A R s hs
  obtain ⟨h, g, dd, tt, os⟩ := s
  have f0 := F.sub_str_str
  unfold Builtin.«issubclass.nested»
  repeat (any_goals (first | assumption | wp_step))
  exact hs tt

theorem issubn_tup {tp : Addr} {dd : Option Addr} {n : Nat} {sl : Array (Option Value)} {r its : List Value} (hits : its = .type "str" :: r) (tk : Tok) : Meets (Builtin.«issubclass.nested» ⟨[.type "str", .ref tp, .int 0 tk], []⟩)
    (fun _ R s => s.heap.get? tp = some ⟨.type "tuple", dd, .seq its.toArray n, sl⟩ ∧ ∀ tk', R (.ok (.ret (.bool true))) { s with toks := tk' }) := by
  intro prog w A R s hs
  obtain ⟨h, g, d, tt, os⟩ := s
  obtain ⟨htp, hq⟩ := hs
  have hT2 : (⟨h, g, d, tt, os⟩ : Shared).TypeIs (.ref tp) "tuple" := ⟨_, htp, rfl⟩
  have f1 := F.isi_sub_tuple
  unfold Builtin.«issubclass.nested»
  repeat (any_goals (first | assumption | wp_step))
  refine wpAny_arrayLoop ?_
  simp only [Option.getD_some, List.toList_toArray]
  rw [hits, List.forIn_cons]
  refine wpAny_bind (wpAny_bind (call_function_meets issubn_kind issubn_plain F.entry_issubclass_nested (issubn_args _ _ _) (issubn_str _ _) fun tk' => ?_))
  show wpAny _ _ (truthy (.bool true) >>= _) _ _ _
  refine wpAny_bind (m := truthy (.bool true)) (wpAny_pure ?_)
  refine wpAny_bind (wpAny_pure (wpAny_pure (wpAny_pure ?_)))
  repeat (any_goals (first | assumption | wp_step))
  exact hq tk'

section
variable {prog : Program} {w : World} {A : Around} {E : Value → Shared → Prop} {s : Shared} {Q : Value → Shared → Prop}

theorem issub_call {tp : Addr} {dd : Option Addr} {n : Nat} {sl : Array (Option Value)} {r : List Value} (htp : s.heap.get? tp = some ⟨.type "tuple", dd, .seq (.type "str" :: r).toArray n, sl⟩)
    (h : ∀ tk, Q (.bool true) { s with toks := tk }) : wpAny (model prog w) A (call (.builtin "issubclass") [.type "str", .ref tp]) Q E s :=
  call_function_meets F.kind_issubclass F.plain_issubclass F.entry_issubclass (F.args_issubclass_2 _ _)
    (S := fun _ R s => s.heap.get? tp = some ⟨.type "tuple", dd, .seq (.type "str" :: r).toArray n, sl⟩ ∧ ∀ tk', R (.ok (.ret (.bool true))) { s with toks := tk' })
    (fun prog w A R s hs => issubclass_outer (issubn_tup rfl _ prog w A R s hs)) ⟨htp, h⟩
end
end
section
open PySem PySem.W PyProof.Rows PySem.Calls PySem.Spec
set_option maxRecDepth 100000
set_option maxHeartbeats 400000

theorem noE {α : Type} {M : Model} {A : Around} {t : Sem α} {Q : α → Shared → Prop} {E : Value → Shared → Prop} {s : Shared} (h : wpAny M A t Q (fun _ _ => False) s) : wpAny M A t Q E s :=
  wpAny_mono h (fun _ _ q => q) fun _ _ e => e.elim

/-- what stands in the caller's heap and is not handed over to be changed stands in the callee's ground -/
def Rests (h g : Heap) (hid : List (Addr × Obj)) : Prop := ∀ b o, h.get? b = some o → b ∉ hid.map (·.1) → g.get? b = some o

theorem Rests.news {h₀ h g h' : Heap} {L L' : Addr} {m' : Str → Option Value} {hid rest : List (Addr × Obj)} (hr : Rests h g hid) (N : News h₀ L h rest) (hne : ∀ p ∈ rest, p.1 ∉ hid.map (·.1)) (F' : Fr g L' h' m') : News h₀ L h' rest :=
  fun p hp => ⟨F'.keep _ _ (hr _ _ (N p hp).1 (hne p hp)), (N p hp).2⟩

theorem Rests.all {h₀ h g h' : Heap} {L L' : Addr} {m' : Str → Option Value} {rest : List (Addr × Obj)} (hr : Rests h g []) (N : News h₀ L h rest) (F' : Fr g L' h' m') : News h₀ L h' rest :=
  hr.news N (fun _ _ h => nomatch h) F'
theorem news_pre {h₀ h : Heap} {L : Addr} {p : Addr × Obj} {a b : List (Addr × Obj)} (x : News h₀ L h a) (hp : p ∈ a) (y : News h₀ L h b) : News h₀ L h (p :: b) := fun q hq => (List.mem_cons.mp hq).elim (fun e => e ▸ x p hp) (y q)

/-- the objects that are handed over to be changed; the rest of the ledger -/
structure HidN (h₀ : Heap) (L : Addr) (h : Heap) (hid : List (Addr × Obj)) : Prop where
  n : News h₀ L h hid
structure RestN (h₀ : Heap) (L : Addr) (h : Heap) (hid rest : List (Addr × Obj)) : Prop where
  n : News h₀ L h rest
  ne : ∀ p ∈ rest, p.1 ∉ hid.map (·.1)
theorem HidN.none {h₀ : Heap} {L : Addr} {h : Heap} : HidN h₀ L h [] := ⟨News.nil⟩
theorem RestN.all {h₀ : Heap} {L : Addr} {h : Heap} {rest : List (Addr × Obj)} (N : News h₀ L h rest) : RestN h₀ L h [] rest := ⟨N, fun _ _ h => nomatch h⟩

section
variable {prog : Program} {w : World} {A A₀ : Around} {s : Shared} {K : Frag} {L : Addr} {h₀ base : Heap} {m mg mb : Str → Option Value} {hid : List (Addr × Obj)} {p : Program} {loose : List Str} {mean : ExcName → Option Value}
theorem code_defR {rest : List (Addr × Obj)} {env : Env} {outer : List Env} {R : Result → Shared → Prop} {name qual : Str} {params : Arguments} {body : List Stmt} {scope : Scope} {dV kV doc pm cdv ct oc : Value} {an od : Option Addr} {osl : Array (Option Value)} {f : Addr} {args : Args} {binds : List (Str × Value)}
    (B : Below A₀ base outer h₀) (F : Fr h₀ L s.heap m) (X₀ : K.In h₀) (HN : HidN h₀ L s.heap hid) (NR : RestN h₀ L s.heap hid rest) (T : Top p loose mean mg mb h₀) (hA : A.frames = some (env :: outer)) (hf : env.frame = some L) (hke : env.scope.kind = .function)
    (ho : K.lookup f = some ⟨oc, od, .func (fnOf name qual params body scope dV kV doc pm an cdv ct), osl⟩) (hcd : codeIn K cdv qual = true) (hroom : A.depth < recursionLimit)
    (hbind : BindsTo s (fnOf name qual params body scope dV kV doc pm an cdv ct) args binds) (hloc : ∀ y ∈ binds, scope.names.lookup y.1 = some .local)
    (h : ∀ g L' h₁, Rests s.heap g hid → Fr h₀ L g m → Fr g L' h₁ (fun y => binds.reverse.lookup y) → News g L' h₁ hid → Below A base (env :: outer) g → K.In g → Top p loose mean mg mb g →
      wpAny (model prog w) (A.deeper (envOf qual scope L' f cdv)) (execs body (envOf qual scope L' f cdv))
        (fun fl s' => LeaveK h₀ L m g (fun r s' => News h₀ L s'.heap rest → R r s') (match fl with | .ret v => v | _ => .none) s')
        (fun e s' => wpAny (model prog w) (A.deeper (envOf qual scope L' f cdv)) (leaving (envOf qual scope L' f cdv) e) (fun _ s'' => R (.error e) s'') (fun e' s'' => R (.error e') s'') s')
        { s with heap := h₁, toks := s.toks + binds.length })
    (hco : scope.isCoroutine = false) (hgen : scope.isGenerator = false) (hk : scope.kind = .function)
    (hcell : ∀ x ∈ scope.names, x.2 ≠ .cell) : codeAny (model prog w) A (.call (.ref f) args) R s := by
  have N := HN.n
  obtain ⟨FG, BG, st, lv⟩ := groundX (R := fun r s' => News h₀ L s'.heap rest → R r s') B F N hA hf hke
  refine codeAny_call_def (fd := fnOf name qual params body scope dV kV doc pm an cdv ct) (body := body) (binds := binds) hroom ((X₀.keeps F.keep) _ _ ho) rfl (T.nolimit.keeps F.keep) (codeRec_of (X₀.keeps F.keep) hcd) rfl hbind hcell hloc (fun h₁ hns hk₁ => ?_) hco hgen hk
  have hr : Rests s.heap (hideAll s.heap (List.map (fun (x : Addr × Obj) => x.fst) hid)) hid := fun b o e hb => hideAll_get _ e hb
  refine wpAny_mono (h (hideAll s.heap (List.map (fun (x : Addr × Obj) => x.fst) hid)) s.heap.objs.size h₁ hr FG ⟨hns, fun b o e => hk₁ b o (of_hideAll _ e), Nat.le_of_eq (hideAll_size _ _)⟩
    (fun p hp => ⟨hk₁ _ _ (N p hp).1, Nat.ne_of_lt (Heap.lt_size (N p hp).1), hideAll_none _ (List.mem_map_of_mem hp)⟩) BG (X₀.keeps st) (T.keeps st)) (fun fl s' hl => ?_) fun _ _ y => y
  obtain ⟨L', m', news', F', N', k⟩ := id hl
  exact lv _ _ hl (hr.news NR.n NR.ne F')

/-- the same with a rest parameter (*p), nothing handed over to be changed -/
theorem code_restR {rest : List (Addr × Obj)} {env : Env} {outer : List Env} {R : Result → Shared → Prop} {name qual : Str} {params : Arguments} {body : List Stmt} {scope : Scope} {dV kV doc pm cdv ct oc : Value} {an od : Option Addr} {osl : Array (Option Value)} {f : Addr} {args : Args} {vs : List Value} {g₁ : Addr → Option (List (Str × Value))} {binds : Addr → List (Str × Value)}
    (B : Below A₀ base outer h₀) (F : Fr h₀ L s.heap m) (X₀ : K.In h₀) (N : News h₀ L s.heap rest) (T : Top p loose mean mg mb h₀) (hA : A.frames = some (env :: outer)) (hf : env.frame = some L) (hke : env.scope.kind = .function)
    (ho : K.lookup f = some ⟨oc, od, .func (fnOf name qual params body scope dV kV doc pm an cdv ct), osl⟩) (hcd : codeIn K cdv qual = true) (hroom : A.depth < recursionLimit)
    (hv : args.pos.drop (params.posonlyargs.length + params.args.length) = vs)
    (hp : peek1 K ⟨prog, w.params⟩ (bindArgs (fnOf name qual params body scope dV kV doc pm an cdv ct) args) = some (({ cls := .type "tuple", data := .seq vs.toArray } : Obj), g₁))
    (hg : ∀ D, g₁ D = some (binds D)) (hloc : ∀ D, ∀ y ∈ binds D, scope.names.lookup y.1 = some .local)
    (h : ∀ D g L' h₁, Fr h₀ L g m → Fr g L' h₁ (fun y => (binds D).reverse.lookup y) → News g L' h₁ [(D, ({ cls := .type "tuple", data := .seq vs.toArray } : Obj))] → Below A base (env :: outer) g → K.In g → Top p loose mean mg mb g →
      wpAny (model prog w) (A.deeper (envOf qual scope L' f cdv)) (execs body (envOf qual scope L' f cdv))
        (fun fl s' => LeaveK h₀ L m g (fun r s' => News h₀ L s'.heap rest → R r s') (match fl with | .ret v => v | _ => .none) s')
        (fun e s' => wpAny (model prog w) (A.deeper (envOf qual scope L' f cdv)) (leaving (envOf qual scope L' f cdv) e) (fun _ s'' => R (.error e) s'') (fun e' s'' => R (.error e') s'') s')
        { s with heap := h₁, toks := s.toks + (binds D).length })
    (hco : scope.isCoroutine = false) (hgen : scope.isGenerator = false) (hk : scope.kind = .function)
    (hcell : ∀ x ∈ scope.names, x.2 ≠ .cell) : codeAny (model prog w) A (.call (.ref f) args) R s := by
  have _ := hv
  refine codeAny_call_function (fd := fnOf name qual params body scope dV kV doc pm an cdv ct) (body := body) hroom ((X₀.keeps F.keep) _ _ ho) rfl hco hgen rfl (codeRec_of (X₀.keeps F.keep) hcd) ?_
  refine wp_of_peek1 (o := ({ cls := .type "tuple", data := .seq vs.toArray } : Obj)) F N (X₀.keeps F.keep) rfl (r := binds) (fun D h' F' N' l => ?_) _ g₁ hp hg
  have ND : News h₀ L h' [(D, ({ cls := .type "tuple", data := .seq vs.toArray } : Obj))] := fun q hq => N' q (by rw [List.mem_singleton.mp hq]; exact .head _)
  obtain ⟨FG, BG, st, lv⟩ := groundX (s := { s with heap := h' }) (R := fun r s' => News h₀ L s'.heap rest → R r s') B F' ND hA hf hke
  refine wpAny_newFunctionEnv hcell (hloc D) (fun h₁ hns hsb => ⟨(T.nolimit.keeps F'.keep).fresh _ hsb, codeAny_func ?_⟩) hk
  have hk₁ : ∀ b o, h'.get? b = some o → h₁.get? b = some o := fun b o e => hsb.extBut b o (Nat.ne_of_lt (Heap.lt_size e)) (Heap.get?_push_of_some _ e)
  have hr : ∀ p ∈ rest, (hideAll h' [D]).get? p.1 = some p.2 := fun p hp => hideAll_get _ (N' p (.tail _ hp)).1 (fun q => Nat.lt_irrefl D (List.mem_singleton.mp q ▸ l p hp))
  refine wpAny_mono (h D (hideAll h' [D]) h'.objs.size h₁ FG ⟨hns, fun b o e => hk₁ b o (of_hideAll _ e), Nat.le_of_eq (hideAll_size _ _)⟩
    (fun p hp => ⟨hk₁ _ _ (ND p hp).1, Nat.ne_of_lt (Heap.lt_size (ND p hp).1), hideAll_none _ (by rw [List.mem_singleton.mp hp]; exact .head _)⟩) BG (X₀.keeps st) (T.keeps st)) (fun fl s' hl => ?_) fun _ _ y => y
  obtain ⟨L', m', news', F', N'', k⟩ := id hl
  exact lv _ _ hl fun p hp => ⟨F'.keep _ _ (hr p hp), (N p hp).2⟩
end
end
section
open PySem PySem.W PyProof.Rows PySem.Calls PySem.Spec PyProof.V
set_option maxRecDepth 100000
set_option maxHeartbeats 400000

theorem frame_again {x : Str} {v u : Option Value} {m : Str → Option Value} : (fun y => if y = x then v else if y = x then u else m y) = fun y => if y = x then v else m y := by
  funext y
  by_cases h : y = x
  · simp [h]
  · simp [h]

section
variable {prog : Program} {w : World} {A : Around} {E : Value → Shared → Prop} {s : Shared} {env : Env} {h₀ : Heap} {x : Str} {body : List Stmt} {Q : Flow → Shared → Prop}
/-- a loop over a list of the ledger; the frame keeps all but the loop's name, the ledger goes with a state c -/
theorem loop_list {σ : Type} {l : Addr} {vs : List Value} {nn : Nat} {m₀ : Str → Option Value} (Led : σ → List (Addr × Obj)) (I : Nat → σ → Prop) (c₀ : σ)
    (hh : A.handled = none) (hl : ∀ c, (l, listOf vs.toArray nn) ∈ Led c) (F : Fr h₀ env.locals s.heap m₀) (N : News h₀ env.locals s.heap (Led c₀)) (h0 : I 0 c₀)
    (turn : ∀ i v c h tk own, vs[i]? = some v → I i c → OwnOff own ((Led c).map (·.1)) → Fr h₀ env.locals h (fun y => if y = x then some v else m₀ y) → News h₀ env.locals h (Led c ++ own) →
      wpAny (model prog w) A (execs body env) (InvPostG h₀ env.locals (fun m' nx => ∃ c', nx = Led c' ∧ I (i + 1) c' ∧ ∃ u, m' = fun y => if y = x then u else m₀ y) own { s with heap := h, toks := tk } Q) E { s with heap := h, toks := tk })
    (done : ∀ c (u : Option Value) h tk, I vs.length c → Fr h₀ env.locals h (fun y => if y = x then u else m₀ y) → News h₀ env.locals h (Led c) → Q .next { s with heap := h, toks := tk }) :
    wpAny (model prog w) A (pyIter (.ref l)) (fun it s₂ => LoopAtV prog w A h₀ env x body Q E it s₂) E s := by
  have h00 : ∃ u, m₀ = fun y => if y = x then u else m₀ y := ⟨m₀ x, by
    funext y
    by_cases h : y = x
    · simp [h]
    · simp [h]⟩
  refine kdl_iter (fun i m nx => ∃ c, nx = Led c ∧ I i c ∧ ∃ u, m = fun y => if y = x then u else m₀ y) hh (hl c₀) F N ⟨c₀, rfl, h0, h00⟩ ?_ ?_
  · rintro i v m₁ news₁ h tk own hv hoff _ ⟨c, rfl, hi, u, rfl⟩ F₁ N₁
    rw [frame_again] at F₁
    refine wpAny_mono (turn i v c h tk own hv hi hoff F₁ N₁) (fun f s₂ p => ?_) fun _ _ x => x
    have up : InvEndG h₀ env.locals (fun m' nx => ∃ c', nx = Led c' ∧ I (i + 1) c' ∧ ∃ u, m' = fun y => if y = x then u else m₀ y) own { s with heap := h, toks := tk } s₂ →
        InvEndG h₀ env.locals (fun m' nx => (l, listOf vs.toArray nn) ∈ nx ∧ ∃ c, nx = Led c ∧ I (i + 1) c ∧ ∃ u, m' = fun y => if y = x then u else m₀ y) own { s with heap := h, toks := tk } s₂ := by
      rintro ⟨h', tk', m', news', nx', e', F', N', hn', ho', ha, c', rfl, hS⟩
      exact ⟨h', tk', m', news', _, e', F', N', hn', ho', ha, hl c', c', rfl, hS⟩
    cases f with
    | ret v => exact p
    | brk => exact p
    | next => exact up p
    | cont => exact up p
  · rintro m₁ news₁ h tk ⟨c, rfl, hi, u, rfl⟩ F₁ N₁
    exact done c u h tk hi F₁ N₁
end
end
section
open PySem PySem.W PyProof.Rows PySem.Calls PySem.Spec PyProof.V
set_option maxRecDepth 100000
set_option maxHeartbeats 400000
section
variable {prog : Program} {w : World} {A : Around} {E : Value → Shared → Prop} {s : Shared} {h₀ : Heap} {L D : Addr} {m : Str → Option Value} {news news' : List (Addr × Obj)} {vs p q : List Value} {n : Nat} {x y v : Value}

theorem isEmpty_snoc {α : Type} (p : List α) (v : α) : (p ++ [v]).isEmpty = false := by simp
theorem l_is (N : News h₀ L s.heap news) (hm : (D, listOf vs.toArray n) ∈ news) : s.heap.IsList D vs.toArray := ⟨_, (N _ hm).1, rfl, n, rfl⟩
theorem sizeLine_big {k : Nat} (h : k ≤ 100000) : k ≤ sizeLine := Nat.le_trans h (by decide)
theorem l_append {Q : Value → Shared → Prop} (F : Fr h₀ L s.heap m) (N : News h₀ L s.heap news) (U : Upd D (listOf vs.toArray n) (listOf (vs ++ [x]).toArray (n + 1)) news news') (hz : vs.length ≤ 100000)
    (h : ∀ h', Fr h₀ L h' m → News h₀ L h' news' → Q .none { s with heap := h' }) : wpAny (model prog w) A (call (.builtin "list.append") [.ref D, x]) Q E s := by
  have e : (vs ++ [x]).toArray = vs.toArray.push x := by simp
  rw [e] at U
  exact append_K F N U h (by rw [List.size_toArray]; exact sizeLine_big hz)
theorem l_truthy {Q : Bool → Shared → Prop} (N : News h₀ L s.heap news) (hm : (D, listOf vs.toArray n) ∈ news) (hz : vs.length ≤ 100000) (h : ∀ k, Q (!vs.isEmpty) { s with toks := k }) : wpAny (model prog w) A (truthy (.ref D)) Q E s := by
  refine wpAny_truthy_list (l_is N hm) (by rw [List.size_toArray]; omega) ?_
  have e : vs.toArray.isEmpty = vs.isEmpty := by cases vs <;> rfl
  rw [e]
  exact h _
theorem l_pop {Q : Value → Shared → Prop} (F : Fr h₀ L s.heap m) (N : News h₀ L s.heap news) (U : Upd D (listOf (p ++ [y]).toArray n) (listOf p.toArray (n + 1)) news news') (hz : p.length ≤ 10000)
    (h : ∀ h', Fr h₀ L h' m → News h₀ L h' news' → Q y { s with heap := h' }) : wpAny (model prog w) A (call (.builtin "list.pop") [.ref D]) Q E s :=
  kl_pop F N (by simpa using kpa_last y p) U (sizeLine_big (by simp; omega)) h
theorem kl_cut_mid (y : Value) (q : List Value) : ∀ p : List Value, kl_cut (p ++ y :: q) p.length = some (p, y, q)
  | [] => by simp [kl_cut]
  | a :: p => by simp [kl_cut, kl_cut_mid y q p]
theorem l_popAt {i : Int} {u : Tok} {Q : Value → Shared → Prop} (F : Fr h₀ L s.heap m) (N : News h₀ L s.heap news) (hi : i = (p.length : Int)) (U : Upd D (listOf (p ++ y :: q).toArray n) (listOf (p ++ q).toArray (n + 1)) news news') (hz : p.length + q.length ≤ 10000)
    (h : ∀ h', Fr h₀ L h' m → News h₀ L h' news' → Q y { s with heap := h' }) : wpAny (model prog w) A (call (.builtin "list.pop") [.ref D, .int i u]) Q E s := by
  subst hi
  refine kl_popAt (k := p.length) F N ?_ ?_ (by simpa using kl_cut_mid y q p) U (sizeLine_big (by simp; omega)) h
  · unfold Builtin.List.listFitsIndex; simp; omega
  · rw [StrLaws.seqIndex_nonneg (by omega) (by simp; omega)]; simp
theorem l_len {Q : Value → Shared → Prop} (N : News h₀ L s.heap news) (hm : (D, listOf vs.toArray n) ∈ news) (hz : vs.length ≤ 100000) (h : ∀ t k, Q (.int (vs.length : Int) t) { s with toks := k }) : wpAny (model prog w) A (call (.builtin "len") [.ref D]) Q E s := by
  refine len_list (l_is N hm) (by rw [List.size_toArray]; omega) ?_
  have e : (vs.toArray.size : Int) = (vs.length : Int) := by rw [List.size_toArray]
  first | (rw [e]; exact h _ _) | (simp only [List.size_toArray]; exact h _ _)
theorem l_last {value slice : PySem.Expr} {u : Tok} {Q : Value → Shared → Prop} (N : News h₀ L s.heap news) (hm : (D, listOf (p ++ [y]).toArray n) ∈ news) (h : Q y s)
    (hs : subscripted slice false (.ref D) (.int (-1) u) = operate [.ref D, .int (-1) u] (getItem (.ref D) (.int (-1) u)) := by with_unfolding_all rfl) : wpAny (model prog w) A (subscriptTail value slice (.ref D) (.int (-1) u)) Q E s :=
  have hl := l_is N hm
  have e : (-1 + ((p ++ [y]).toArray.size : Int)).toNat = p.length := by (simp; omega)
  tail_any hl.typeIs slot_list_getitem.lookup (wpAny_getItem_list_neg (x := y) hl (by decide) (by simp; omega) (by decide) (by rw [e]; simp) h) hs
theorem l_item {value slice : PySem.Expr} {k : Int} {u : Tok} {Q : Value → Shared → Prop} (N : News h₀ L s.heap news) (hm : (D, listOf vs.toArray n) ∈ news) (h0 : 0 ≤ k) (hk : vs[k.toNat]? = some v) (hz : k < 100000) (h : Q v s)
    (hs : subscripted slice false (.ref D) (.int k u) = operate [.ref D, .int k u] (getItem (.ref D) (.int k u)) := by with_unfolding_all rfl) : wpAny (model prog w) A (subscriptTail value slice (.ref D) (.int k u)) Q E s :=
  have hl := l_is N hm
  tail_any hl.typeIs slot_list_getitem.lookup (wpAny_getItem_list hl h0 (by omega) (by simpa using hk) h) hs
theorem l_join {z : Str} {t : Tok} {ys : List Str} {Q : Value → Shared → Prop} (N : News h₀ L s.heap news) (hm : (D, listOf vs.toArray n) ∈ news) (hi : StrsAre vs ys) (hz : (ys.map (·.length)).sum + ys.length * z.length ≤ 1000000)
    (h : ∀ t' k, Q (.str (Str.join z ys) t') { s with toks := k }) : wpAny (model prog w) A (call (.builtin "str.join") [.str z t, .ref D]) Q E s := by
  refine join_list (l_is N hm) (by simpa using hi) (by omega) fun t' k => ?_
  have e : Txt.join z ys = Str.join z ys := StrLaws.glued_eq_join z ys
  rw [e]
  exact h t' k
end
end
section
open PySem PySem.W PyProof.Rows PySem.Calls PySem.Spec PyProof.V
set_option maxRecDepth 100000
set_option maxHeartbeats 400000
section
variable {prog : Program} {w : World} {A : Around} {E : Value → Shared → Prop} {s : Shared} {x y : Str} {t u : Tok} {Q : Value → Shared → Prop}
theorem s_add (hz : x.length + y.length ≤ 1000000) (h : ∀ t' k, Q (.str (x ++ y) t') { s with toks := k }) : wpAny (model prog w) A (binaryOp .Add (.str x t) (.str y u)) Q E s :=
  add_str (fun t' k => h t' k) (Nat.le_trans hz (by decide))
theorem mulOk_one {c : Nat} {n : Int} (h0 : 2 ≤ n) (h1 : n ≤ 8) : MulOk ⟨#[c]⟩ n := by
  refine ⟨?_, fun _ _ => ?_, fun _ _ => ?_⟩
  · simp; omega
  · have : n = 2 ∨ n = 3 ∨ n = 4 ∨ n = 5 ∨ n = 6 ∨ n = 7 ∨ n = 8 := by omega
    rcases this with rfl | rfl | rfl | rfl | rfl | rfl | rfl <;> simp [Str.length]
  · have : n = 2 ∨ n = 3 ∨ n = 4 ∨ n = 5 ∨ n = 6 ∨ n = 7 ∨ n = 8 := by omega
    rcases this with rfl | rfl | rfl | rfl | rfl | rfl | rfl <;> rfl
theorem s_mul3 {c : Nat} (h : ∀ t' k, Q (.str ⟨#[c, c, c]⟩ t') { s with toks := k }) : wpAny (model prog w) A (binaryOp .Mult (.str ⟨#[c]⟩ t) (.int 3 u)) Q E s :=
  SB.mul (mulOk_one (by decide) (by decide)) fun t' k => h t' k
theorem s_mul4 {c : Nat} (h : ∀ t' k, Q (.str ⟨#[c, c, c, c]⟩ t') { s with toks := k }) : wpAny (model prog w) A (binaryOp .Mult (.str ⟨#[c]⟩ t) (.int 4 u)) Q E s :=
  SB.mul (mulOk_one (by decide) (by decide)) fun t' k => h t' k
theorem log2_small {a : Int} (h0 : 0 ≤ a) (h1 : a < 100000) : a.natAbs.log2 < 1920 := by
  have h : a.natAbs < 2 ^ 17 := by omega
  by_cases hz : a.natAbs = 0
  · rw [hz]; decide
  · have := (Nat.log2_lt hz).mpr h
    omega
theorem s_str {a : Int} (h0 : 0 ≤ a) (h1 : a < 100000) (h : ∀ t' k, Q (.str (Str.ofString (toString a)) t') { s with toks := k }) : wpAny (model prog w) A (call (.type "str") [.int a t]) Q E s :=
  P.str_of_int (log2_small h0 h1) (h _ _)
end
end
section
open PySem PySem.W PyProof.Rows PySem.Calls PySem.Spec PyProof.V
set_option maxRecDepth 100000
set_option maxHeartbeats 400000
section
variable {prog : Program} {w : World} {A : Around} {E : Value → Shared → Prop} {s : Shared} {x y z : Str} {t u v : Tok} {i j k : Int} {Q : Value → Shared → Prop} {value slice : PySem.Expr} {h₀ : Heap} {L : Addr} {m : Str → Option Value} {news : List (Addr × Obj)}
theorem s_find (hf : Txt.find x y = k) (h : ∀ t', Q (.int k t') { s with toks := s.toks + 1 }) : wpAny (model prog w) A (call (.builtin "str.find") [.str x t, .str y u]) Q E s :=
  SC.find (by rw [hf]; exact h _)
theorem s_find3 (hf : Txt.find3 x y i = k) (h : ∀ t', Q (.int k t') { s with toks := s.toks + 1 }) : wpAny (model prog w) A (call (.builtin "str.find") [.str x t, .str y u, .int i v]) Q E s :=
  SC.find3 (by rw [hf]; exact h _)
theorem s_item (h0 : 0 ≤ i) (h1 : i < x.length) (hx : x.length ≤ 100000) (hf : Txt.item x i = z) (h : ∀ t' k, Q (.str z t') { s with toks := k })
    (hs : subscripted slice false (.str x t) (.int i u) = operate [.str x t, .int i u] (getItem (.str x t) (.int i u)) := by with_unfolding_all rfl)
    (ht : ∀ r, letTemporaryGo value (.str x t) r = pure () := by intro _; with_unfolding_all rfl) :
    wpAny (model prog w) A (subscriptTail value slice (.str x t) (.int i u)) Q E s := by
  refine item_str (fitsSsize_of (N := 9223372036854775808) (by omega) (by omega) (Int.le_refl _)) (by omega) h1 ?_ hs ht
  rw [hf]; exact fun _ => h _ _
theorem s_slice_ns (hF : Fr h₀ L s.heap m) (hN : News h₀ L s.heap news) (hx : x.length ≤ 100000) (hf : Txt.slice x none (some j) = z) (h : ∀ h' t' k, Fr h₀ L h' m → News h₀ L h' news → Q (.str z t') { s with heap := h', toks := k })
    (hs : subscripted slice false (.str x t) (.ref s.heap.objs.size) = operate [.ref s.heap.objs.size, .str x t] (getItem (.str x t) (.ref s.heap.objs.size)) := by with_unfolding_all rfl)
    (ht : ∀ r, letTemporaryGo value (.str x t) r = pure () := by intro _; with_unfolding_all rfl) :
    wpAny (model prog w) A (subscriptTail value slice (.str x t) (.ref s.heap.objs.size)) Q E { s with heap := s.heap.push { cls := .type "slice", data := .fields #[.none, .int j u, .none] } } :=
  slice_strN_ns hF hN (by rw [hf]; exact h) hs ht (sizeLine_big hx)
theorem s_slice_ss (hF : Fr h₀ L s.heap m) (hN : News h₀ L s.heap news) (hx : x.length ≤ 100000) (hf : Txt.slice x (some i) (some j) = z) (h : ∀ h' t' k, Fr h₀ L h' m → News h₀ L h' news → Q (.str z t') { s with heap := h', toks := k })
    (hs : subscripted slice false (.str x t) (.ref s.heap.objs.size) = operate [.ref s.heap.objs.size, .str x t] (getItem (.str x t) (.ref s.heap.objs.size)) := by with_unfolding_all rfl)
    (ht : ∀ r, letTemporaryGo value (.str x t) r = pure () := by intro _; with_unfolding_all rfl) :
    wpAny (model prog w) A (subscriptTail value slice (.str x t) (.ref s.heap.objs.size)) Q E { s with heap := s.heap.push { cls := .type "slice", data := .fields #[.int i v, .int j u, .none] } } :=
  slice_strN_ss hF hN (by rw [hf]; exact h) hs ht (sizeLine_big hx)
theorem s_split {ys : List Str} (hF : Fr h₀ L s.heap m) (hN : News h₀ L s.heap news) (hy : (y.length == 0) = false) (hx : x.length ≤ 100000) (hf : Txt.split x y = ys)
    (h : ∀ D vs h' k, StrsAre vs ys → Fr h₀ L h' m → News h₀ L h' ((D, listOf vs.toArray 0) :: news) → (∀ p ∈ news, p.1 < D) → Q (.ref D) { s with heap := h', toks := k }) : wpAny (model prog w) A (call (.builtin "str.split") [.str x t, .str y u]) Q E s :=
  KSpl.split1 hF hN hy (fun D l h' k e a F N l1 => h D _ h' k (by rw [← hf, ← e]; exact a) F N l1) (Nat.le_trans (Nat.add_le_add_right hx 2) (by decide))
/-- a tuple of the ground -/
structure TupIn (g : Heap) (a : Addr) (l : List Value) : Prop where
  t : IsTup g a l.toArray
theorem tup_kept {g h : Heap} {a L' : Addr} {l : List Value} {m' : Str → Option Value} (x : TupIn g a l) (F : Fr g L' h m') : IsTup h a l.toArray := IsTup.keeps x.t F.keep
theorem tup_rests {h g : Heap} {a : Addr} {l : List Value} {n : Nat} (hr : Rests h g []) (e : h.get? a = some { cls := .type "tuple", data := .seq l.toArray n }) : TupIn g a l := ⟨⟨_, hr _ _ e (fun h => nomatch h), rfl, n, rfl⟩⟩
theorem strs5 {vs : List Value} {a b c d e : Str} (h : StrsAre vs [a, b, c, d, e]) : ∃ t0 t1 t2 t3 t4, vs = [.str a t0, .str b t1, .str c t2, .str d t3, .str e t4] := by
  rcases h with _ | ⟨_, t0, _ | ⟨_, t1, _ | ⟨_, t2, _ | ⟨_, t3, _ | ⟨_, t4, _ | _⟩⟩⟩⟩⟩
  exact ⟨t0, t1, t2, t3, t4, rfl⟩
end
end
section
open PySem PySem.W PyProof.Rows PySem.Calls PySem.Spec PyProof.V
set_option maxRecDepth 100000
set_option maxHeartbeats 400000
/-- what a loop keeps of its frame: the names of ps hold these values, the stored names anything, all else what it held -/
def FrameIs (ps : List (Str × Value)) (stored : List Str) (m₀ m : Str → Option Value) : Prop :=
  (∀ p ∈ ps, m p.1 = some p.2) ∧ ∀ z, (∀ p ∈ ps, z ≠ p.1) → stored.contains z = false → m z = m₀ z
theorem FrameIs.fr {g h : Heap} {L : Addr} {ps : List (Str × Value)} {stored : List Str} {m₀ m : Str → Option Value} (H : FrameIs ps stored m₀ m) (F : Fr g L h m) :
    Fr g L h (kstB (fun z => if stored.contains z then m z else m₀ z) ps) := by
  have e : kstB (fun z => if stored.contains z then m z else m₀ z) ps = m := by
    funext z
    refine kstB_eq H.1 fun hz => ?_
    show (if stored.contains z then m z else m₀ z) = m z
    split
    · rfl
    · rename_i hs
      exact (H.2 z hz (Bool.eq_false_iff.mpr hs)).symm
  rw [e]
  exact F
/-- a goal that the walk leaves to us -/
def Hold (p : Prop) : Prop := p
structure WMark (J : (Str → Option Value) → Nat → (Str → Option Value) → List (Addr × Obj) → Prop) : Prop where
  mk ::
section
variable {prog : Program} {w : World} {A : Around} {E : Value → Shared → Prop} {Q : Flow → Shared → Prop} {s : Shared} {env : Env} {h₀ : Heap} {L : Addr}
theorem while_mark {J : (Str → Option Value) → Nat → (Str → Option Value) → List (Addr × Obj) → Prop} {test : PySem.Expr} {body : List Stmt} {pos : Pos} {m : Str → Option Value} {news : List (Addr × Obj)} (_hm : WMark J)
    (F : Fr h₀ L s.heap m) (N : News h₀ L s.heap news) (start : Hold (∃ n₀, J m n₀ m news))
    (turn : Hold (∀ n m₁ news₁ h₁ tk₁, Fr h₀ L h₁ m₁ → News h₀ L h₁ news₁ → J m n m₁ news₁ →
      wpAny (model prog w) A (isTrue test env (eval test env)) (fun b s₂ =>
        if b = true then wpAny (model prog w) A (execs body env) (WhileStep2 h₀ L s (J m) Q n) E s₂ else Q .next s₂) E { s with heap := h₁, toks := tk₁ }))
    (hE : PassesOwn (model prog w) A env E := by passes_own) : wpAny (model prog w) A (exec (.While test body [] pos) env) Q E s := by
  obtain ⟨n₀, h0⟩ := start
  exact While_inv2 (J m) F N h0 turn hE
theorem whileStep_next {J : Nat → (Str → Option Value) → List (Addr × Obj) → Prop} {n n' : Nat} {h' : Heap} {tk : Nat} {m₂ : Str → Option Value} {news₂ : List (Addr × Obj)} (F : Fr h₀ L h' m₂) (N : News h₀ L h' news₂) (hn : n' < n) (hJ : J n' m₂ news₂) :
    WhileStep2 h₀ L s J Q n .next { s with heap := h', toks := tk } := ⟨h', tk, m₂, news₂, n', rfl, F, N, hn, hJ⟩
end
/-- parse257: the signs -/
theorem item_at {x : Str} {i : Int} {c : Nat} (h0 : 0 ≤ i) (h : x.cps.toList[i.toNat]? = some c) : Txt.item x i = ⟨#[c]⟩ := by
  have hlt : i.toNat < x.length := by
    have := (List.getElem?_eq_some_iff.mp h).1
    simpa [Str.length] using this
  unfold Txt.item Txt.charAt
  rw [StrLaws.seqIndex_nonneg h0 (by omega)]
  have e : x.cps[i.toNat]? = some c := by rw [← Array.getElem?_toList]; exact h
  simp [e]
theorem p257_at {x way d : Str} {pre5 tl todo : List Nat} {i : Int} (hx2 : x.cps.toList = pre5 ++ StrLaws.dbl 34 way.cps.toList ++ 34 :: 32 :: tl) (hpre : pre5.length = 5) (hd : d.cps.toList ++ todo = way.cps.toList)
    (hi : 5 + ((StrLaws.dbl 34 d.cps.toList).length : Int) = i) (j : Nat) : x.cps.toList[(i + (j : Int)).toNat]? = (StrLaws.dbl 34 todo ++ 34 :: 32 :: tl)[j]? := by
  have e : (i + (j : Int)).toNat = (pre5 ++ StrLaws.dbl 34 d.cps.toList).length + j := by rw [List.length_append, hpre]; omega
  rw [hx2, ← hd, StrLaws.dbl_append, e]
  rw [show pre5 ++ (StrLaws.dbl 34 d.cps.toList ++ StrLaws.dbl 34 todo) ++ 34 :: 32 :: tl = (pre5 ++ StrLaws.dbl 34 d.cps.toList) ++ (StrLaws.dbl 34 todo ++ 34 :: 32 :: tl) by simp [List.append_assoc]]
  rw [List.getElem?_append_right (Nat.le_add_right _ _)]
  congr 1
  omega
theorem snoc_cps (d : Str) (c : Nat) : (d ++ (⟨#[c]⟩ : Str)).cps.toList = d.cps.toList ++ [c] := by
  rw [Str.cps_append]; simp
theorem getE_len {x : Str} {i : Int} {c : Nat} (h0 : 0 ≤ i) (h : x.cps.toList[i.toNat]? = some c) : i < x.length := by
  have := (List.getElem?_eq_some_iff.mp h).1
  have e : x.cps.toList.length = x.length := by simp [Str.length]
  omega
theorem pre_len {d way : Str} {todo : List Nat} (hd : d.cps.toList ++ todo = way.cps.toList) : d.length + todo.length = way.length := by
  have := congrArg List.length hd
  simpa [Str.length] using this
theorem str_done {d way : Str} (hd : d.cps.toList ++ [] = way.cps.toList) : d = way := by
  rw [List.append_nil] at hd
  exact Str.ext' (Array.toList_inj.mp hd)
end
section
open PySem PySem.W PyProof.Rows PySem.Calls PySem.Spec PyProof.V
set_option maxRecDepth 100000
set_option maxHeartbeats 400000
section
variable {prog : Program} {w : World} {A : Around} {E : Value → Shared → Prop} {s : Shared} {h₀ : Heap} {L a b : Addr} {m : Str → Option Value} {news : List (Addr × Obj)} {vs ws zs : List Value} {n k : Nat} {Q : Value → Shared → Prop} {lo hi : Option Int} {vl vu : Value} {value slice : PySem.Expr}
theorem l_cat (F : Fr h₀ L s.heap m) (N : News h₀ L s.heap news) (ha : (a, listOf vs.toArray n) ∈ news) (hb : (b, listOf ws.toArray k) ∈ news) (hz : vs.length + ws.length ≤ 100000)
    (h : ∀ D h', Fr h₀ L h' m → News h₀ L h' ((D, listOf (vs ++ ws).toArray 0) :: news) → (∀ p ∈ news, p.1 < D) → Q (.ref D) { s with heap := h' }) : wpAny (model prog w) A (binaryOp .Add (.ref a) (.ref b)) Q E s :=
  kmk_add_lit F N (l_is N ha) (l_is N hb) (by simp) h (by simpa using sizeLine_big hz)
theorem l_slice (F : Fr h₀ L s.heap m) (N : News h₀ L s.heap news) (ha : (a, listOf vs.toArray n) ∈ news) (pl : IsPart vl lo) (pu : IsPart vu hi) (e : kms_pick vs lo hi = zs) (hz : vs.length ≤ 100000)
    (h : ∀ D h', Fr h₀ L h' m → News h₀ L h' ((D, listOf zs.toArray 0) :: news) → (∀ p ∈ news, p.1 < D) → Q (.ref D) { s with heap := h' })
    (hs : subscripted slice false (.ref a) (.ref s.heap.objs.size) = operate [.ref s.heap.objs.size, .ref a] (getItem (.ref a) (.ref s.heap.objs.size)) := by with_unfolding_all rfl) (ht : ∀ r, letTemporaryGo value (.ref a) r = pure () := by intro _; with_unfolding_all rfl) :
    wpAny (model prog w) A (subscriptTail value slice (.ref a) (.ref s.heap.objs.size)) Q E { s with heap := s.heap.push { cls := .type "slice", data := .fields #[vl, vu, .none] } } :=
  kms_slice_lit F N (l_is N ha) pl pu (by simpa using e) h hs ht (by simpa using sizeLine_big hz)
theorem pick_dropLast (vs : List Value) : kms_pick vs none (some (-1)) = vs.dropLast := by
  simp [kms_pick, kms_lo, kms_hi, List.dropLast_eq_take]
theorem pick_take {vs : List Value} {p : Int} (h0 : 0 ≤ p) (h1 : p ≤ vs.length) : kms_pick vs none (some p) = vs.take p.toNat := by
  have e : ¬ p < 0 := by omega
  simp [kms_pick, kms_lo, kms_hi, e]
theorem pick_drop {vs : List Value} {p : Int} (h0 : 0 ≤ p) : kms_pick vs (some p) none = vs.drop p.toNat := by
  have e : ¬ p < 0 := by omega
  simp only [kms_pick, kms_lo, kms_hi, if_neg e]
  rw [List.take_of_length_le (by simp), kmk_drop_min]
end
end
section
open PySem PySem.W PyProof.Rows PySem.Calls PySem.Spec PyProof.V
set_option maxRecDepth 100000
set_option maxHeartbeats 800000
/-- a turn's end, the ground may have turned -/
def GEnd (G : Heap → Prop) (L : Addr) (l It : Addr) (oI lo : Obj) (J : (Str → Option Value) → List (Addr × Obj) → Prop) (s : Shared) (Q : Flow → Shared → Prop) (f : Flow) (s₃ : Shared) : Prop :=
  match f with
  | .ret v => Q (.ret v) s₃
  | .brk => Q .next s₃
  | _ => ∃ g' h' tk' m' nx', s₃ = { s with heap := h', toks := tk' } ∧ G g' ∧ Fr g' L h' m' ∧ News g' L h' nx' ∧ h'.get? It = some oI ∧ g'.get? It = none ∧ (l, lo) ∈ nx' ∧ (∀ p ∈ nx', p.1 ≠ It) ∧ J m' nx'
section
variable {prog : Program} {w : World} {A : Around} {E : Value → Shared → Prop} {s : Shared} {env : Env} {x : Str} {body : List Stmt} {Q : Flow → Shared → Prop}
theorem loop_ground {G : Heap → Prop} {iter : PySem.Expr} {px pos : Pos} {l : Addr} {vs : List Value} {nn : Nat} {g₀ : Heap} {m₀ : Str → Option Value} {nx₀ : List (Addr × Obj)} (J : Nat → (Str → Option Value) → List (Addr × Obj) → Prop)
    (hh : A.handled = none) (hx : env.kindOf x = some .local) (hp : (env.scope.kind == .class || (env.scope.kind == .module && env.locals != env.globals)) = false)
    (F : Fr g₀ env.locals s.heap m₀) (N : News g₀ env.locals s.heap nx₀) (hl : (l, listOf vs.toArray nn) ∈ nx₀) (hG : G g₀) (hj : J 0 m₀ nx₀)
    (hit : ∀ Q' : Value → Shared → Prop, Q' (.ref l) s → wpAny (model prog w) A (eval iter env) Q' E s)
    (turn : Hold (∀ i v g m₁ nx h tk It oI, vs[i]? = some v → G g → J i m₁ nx → (l, listOf vs.toArray nn) ∈ nx → (∀ p ∈ nx, p.1 ≠ It) → Fr g env.locals h (fun y => if y = x then some v else m₁ y) → News g env.locals h (nx ++ [(It, oI)]) →
      wpAny (model prog w) A (execs body env) (GEnd G env.locals l It oI (listOf vs.toArray nn) (J (i + 1)) s Q) E { s with heap := h, toks := tk }))
    (done : Hold (∀ g m₁ nx h tk, G g → J vs.length m₁ nx → Fr g env.locals h m₁ → News g env.locals h nx → Q .next { s with heap := h, toks := tk }))
    (hs : ∀ x, foldedSetIterable iter env x = pure x := by intro _; rfl)
    (hE : PassesOwn (model prog w) A env E := by passes_own) :
    wpAny (model prog w) A (exec (.For (.Name x px) iter body [] pos) env) Q E s := by
  have hol : s.heap.get? l = some (listOf vs.toArray nn) := (N _ hl).1
  have hls : s.heap.IsList l vs.toArray := ⟨_, hol, rfl, nn, rfl⟩
  have hne : l ≠ s.heap.objs.size := Nat.ne_of_lt (Heap.lt_size hol)
  have W := Walks.list (prog := prog) (w := w) hh s.heap.objs.size l hne vs.toArray
  have hlen : vs.toArray.size = vs.length := by simp
  rw [hlen] at W
  generalize hIt : s.heap.objs.size = It at *
  refine wpAny_For (hit _ (wpAny_pyIter_list hls ?_)) hs
  rw [hIt]
  have hLI : env.locals ≠ It := fun e => absurd F.ns.lt (by rw [e, hIt]; exact Nat.lt_irrefl _)
  refine codeAny_forLoop (fun k s' => ∃ g h' tk m nx i, s' = { s with heap := h', toks := tk } ∧ G g ∧ (h'.IsListIter It l i ∧ h'.IsList l vs.toArray) ∧ Fr g env.locals h' m ∧ News g env.locals h' nx ∧ (l, listOf vs.toArray nn) ∈ nx ∧ (∀ p ∈ nx, p.1 ≠ It) ∧ g.get? It = none ∧ J i m nx ∧ i ≤ vs.length ∧ k = vs.length + 1 - i) ?_ (vs.length + 1)
    ⟨g₀, _, s.toks, m₀, nx₀, 0, rfl, hG, ⟨⟨_, by rw [← hIt]; exact Heap.get?_push_size _ rfl, rfl, rfl⟩, hls.at fun o e => Heap.get?_push_of_some _ e⟩, F.push _, (fun p hp => ⟨Heap.get?_push_of_some _ (N p hp).1, (N p hp).2⟩), hl, (fun p hp e => absurd (Heap.lt_size (N p hp).1) (by rw [e, hIt]; exact Nat.lt_irrefl _)), (by rw [← hIt]; exact next_is_new F), hj, Nat.zero_le _, rfl⟩
  rintro k s' ⟨g, h', tk, m, nx, i, rfl, hg, hst, F', N', hl', hI, hgI, hJ, hi, rfl⟩
  by_cases hlt : i < vs.length
  · refine W.item i _ _ _ hlt hst fun v h₁ tk₁ hP hst₁ hk₁ => ?_
    have keep : ∀ b o, b ≠ It → h'.get? b = some o → h₁.get? b = some o := fun b o hb e => hk₁ b o (fun q => hb (List.mem_singleton.mp q)) e
    have F₁ : Fr g env.locals h₁ m := ⟨F'.ns.at' fun o e => keep _ o hLI e, fun b o e => keep b o (fun q => by rw [q, hgI] at e; cases e) (F'.keep b o e), F'.above⟩
    have N₁ : News g env.locals h₁ nx := fun p hp => ⟨keep _ _ (hI p hp) (N' p hp).1, (N' p hp).2⟩
    refine wpAny_assign_Name (wpAny_storeName_local hx F₁.ns (fun h₂ hn₂ hs₂ => ?_) hp)
    have F₂ := F₁.set hn₂ hs₂
    have N₂ := N₁.set hs₂
    obtain ⟨oI, hoI, r⟩ := id hst₁.1
    have hoI₂ : h₂.get? It = some oI := (hs₂.2 It hLI.symm).trans hoI
    have N₃ : News g env.locals h₂ (nx ++ [(It, oI)]) := fun p hp => (List.mem_append.mp hp).elim (N₂ p) fun q => by
      rw [List.mem_singleton.mp q]
      exact ⟨hoI₂, hLI.symm, hgI⟩
    have hv : vs[i]? = some v := by simpa using hP
    refine wpAny_passesOwn hE (wpAny_mono (turn i v g m nx h₂ _ It oI hv hg hJ hl' hI F₂ N₃) (fun f s₃ h₃ => ?_) fun _ _ e => e)
    have fin : (∃ g' h' tk' m' nx', s₃ = { s with heap := h', toks := tk' } ∧ G g' ∧ Fr g' env.locals h' m' ∧ News g' env.locals h' nx' ∧ h'.get? It = some oI ∧ g'.get? It = none ∧ (l, listOf vs.toArray nn) ∈ nx' ∧ (∀ p ∈ nx', p.1 ≠ It) ∧ J (i + 1) m' nx') →
        ∃ m, m < vs.length + 1 - i ∧ ∃ g h' tk m' nx j, s₃ = { s with heap := h', toks := tk } ∧ G g ∧ (h'.IsListIter It l j ∧ h'.IsList l vs.toArray) ∧ Fr g env.locals h' m' ∧ News g env.locals h' nx ∧ (l, listOf vs.toArray nn) ∈ nx ∧ (∀ p ∈ nx, p.1 ≠ It) ∧ g.get? It = none ∧ J j m' nx ∧ j ≤ vs.length ∧ m = vs.length + 1 - j := by
      rintro ⟨g', h₄, tk₄, m', nx', e, hg', F₄, N₄, hI₄, hgI', hl₄, hne₄, hJ₄⟩
      exact ⟨_, by omega, g', h₄, tk₄, m', nx', i + 1, e, hg', ⟨⟨oI, hI₄, r⟩, ⟨_, (N₄ _ hl₄).1, rfl, nn, rfl⟩⟩, F₄, N₄, hl₄, hne₄, hgI', hJ₄, hlt, rfl⟩
    cases f with
    | ret v => exact h₃
    | brk => exact h₃
    | next => exact fin h₃
    | cont => exact fin h₃
  · have hin : i = vs.length := by omega
    subst hin
    refine W.done _ _ _ hst fun h₁ tk₁ hk₁ => wpAny_execs_nil ?_
    have keep : ∀ b o, b ≠ It → h'.get? b = some o → h₁.get? b = some o := fun b o hb e => hk₁ b o (fun q => hb (List.mem_singleton.mp q)) e
    have F₁ : Fr g env.locals h₁ m := ⟨F'.ns.at' fun o e => keep _ o hLI e, fun b o e => keep b o (fun q => by rw [q, hgI] at e; cases e) (F'.keep b o e), F'.above⟩
    exact done g m nx h₁ tk₁ hg hJ F₁ fun p hp => ⟨keep _ _ (hI p hp) (N' p hp).1, (N' p hp).2⟩
end
end
local macro_rules | `(tactic| cell_enter) => `(tactic| (refine' code_defR ?k1 ?k2 ?k3 ?kH ?kN ?k5 ?kA ?kF ?kK ?k6 ?k7 ?k8 ?k9 ?kB ?_ ?c2 ?c3 ?c4 ?c5; (case kA => exact rfl); (case kF => exact rfl); (case kK => assumption); (case k1 => k_asm); (case k2 => k_asm); (case k3 => k_asm); (case kH => assumption); (case kN => assumption); (case k5 => k_asm); (case k6 => k_is); (case k7 => k_is); (case k8 => ktr_room); (case k9 => exact BindsTo.of_eq rfl); (case c5 => decide); (case kB => exact locs rfl); (case c2 => exact rfl); (case c3 => exact rfl); (case c4 => exact rfl); k_whole; intro g' L' h' R' FG' F' N' B' X' T'; (try dsimp only); (try (refine any_toks ?_; intro tkE')); (try k_lift B'); (try k_fold)))
local macro_rules | `(tactic| k_room) => `(tactic| ktr_room)
section
open PySem PySem.W PyProof.Rows PySem.Calls PySem.Spec
set_option maxRecDepth 100000
set_option maxHeartbeats 0
theorem lines_C8_1 : True := by
  k_with_none
  k_with "eval Constant int" => (refine flat_int ?_)
  k_with "eval Constant str" => (refine flat_str ?_)
  k_with "call builtin:issubclass" => (k_here; k_dflt (refine' issub_call ?kqk1 ?_; (case kqk1 => exact News.get (by k_asm) (by k_mem)); k_whole); intro tk)
  k_with "exec While Compare cons nil" => (k_here; k_dflt (refine' while_mark ?kqm ?kqF ?kqN ?kqs ?kqt ?kqe; (case kqm => assumption); (case kqF => k_asm); (case kqN => k_asm); (case kqe => passes_own)))
  trivial
section
variable {w : World} {mean : ExcName → Option Value} {mg mb : Str → Option Value} {dp un : Nat} {gd : Option (List Code)} {cn : Str} {cs : Scope} {a : Addr} {ccd : Value} {cl : List (Str × Addr)} {outer : List Env} {A₀ : Around} {base h₀ : Heap} {L : Addr} {m : Str → Option Value} {news : List (Addr × Obj)} {s : Shared} {Q E : Value → Shared → Prop}
def IsLeast (ports : List Int) (r : Int) : Prop := 1024 ≤ r ∧ r ∉ ports ∧ ∀ j, 1024 ≤ j → j < r → j ∈ ports
/-- between the turns of _law_least -/
def LeastJ (led : List (Addr × Obj)) (ports : List Int) (m₀ : Str → Option Value) (nn : Nat) (m : Str → Option Value) (news : List (Addr × Obj)) : Prop :=
  news = led ∧ ∃ (p : Int) (tp : Tok), nn = (ports.filter (fun q => decide (p ≤ q))).length ∧ FrameIs [(Str.ofString "port", .int p tp)] [Str.ofString "port"] m₀ m ∧ 1024 ≤ p ∧ ∀ j, 1024 ≤ j → j < p → j ∈ ports
theorem any_mem {ports : List Int} {p : Int} (h : (ports.any fun x => x == p) = true) : p ∈ ports := by
  obtain ⟨x, hx, e⟩ := List.any_eq_true.mp h
  exact (beq_iff_eq.mp e) ▸ hx
theorem any_not {ports : List Int} {p : Int} (h : (ports.any fun x => x == p) = false) : p ∉ ports := fun hm => by
  have : (ports.any fun x => x == p) = true := List.any_eq_true.mpr ⟨p, hm, by simp⟩
  rw [h] at this
  cases this
theorem filter_le (ports : List Int) (p : Int) : (ports.filter (fun q => decide (p + 1 ≤ q))).length ≤ (ports.filter (fun q => decide (p ≤ q))).length := by
  induction ports with
  | nil => exact Nat.le_refl _
  | cons a r ih =>
    simp only [List.filter_cons]
    by_cases h1 : p + 1 ≤ a
    · have h2 : p ≤ a := by omega
      simp [h1, h2]; omega
    · by_cases h2 : p ≤ a
      · simp [h1, h2]; omega
      · simp [h1, h2]; omega
theorem filter_lt {ports : List Int} {p : Int} (h : p ∈ ports) : (ports.filter (fun q => decide (p + 1 ≤ q))).length < (ports.filter (fun q => decide (p ≤ q))).length := by
  induction ports with
  | nil => cases h
  | cons a r ih =>
    simp only [List.filter_cons]
    rcases List.mem_cons.mp h with rfl | h
    · have h1 : ¬ p + 1 ≤ p := by omega
      have := filter_le r p
      simp [h1]; omega
    · have ih := ih h
      by_cases h1 : p + 1 ≤ a
      · have h2 : p ≤ a := by omega
        simp [h1, h2]; omega
      · by_cases h2 : p ≤ a
        · simp [h1, h2]; omega
        · simp [h1, h2]; omega
theorem least_more {ports : List Int} {p : Int} (hm : p ∈ ports) (hj : ∀ j, 1024 ≤ j → j < p → j ∈ ports) : ∀ j, 1024 ≤ j → j < p + 1 → j ∈ ports := fun j h1 h2 => by
  by_cases e : j = p
  · rw [e]; exact hm
  · exact hj j h1 (by omega)
theorem news_tail {h₀ h : Heap} {L : Addr} {q : Addr × Obj} {l : List (Addr × Obj)} (N : News h₀ L h (q :: l)) : News h₀ L h l := fun p hp => N p (.tail _ hp)
theorem least0 {lh : Addr} {n : Nat}  {rest : List (Addr × Obj)}
   (B : Below A₀ base outer h₀) (F : Fr h₀ L s.heap m) (X : (hd.heap_39 w.params).In h₀) (T : Top hd.view_39 (looseW hd.view_39 []) mean mg mb h₀) (hk : cs.kind = .function)
   (hdp : dp + 2 < recursionLimit) (hun : un + 64 < cLine) (NH : HidN h₀ L s.heap [(lh, listOf [].toArray n)]) (NR : RestN h₀ L s.heap [(lh, listOf [].toArray n)] rest)
   (ret : ∀ r t' h' tk', IsLeast [] r → Fr h₀ L h' m → News h₀ L h' [(lh, listOf [].toArray n)] → News h₀ L h' rest → Q (.int r t') { s with heap := h', toks := tk' }) :
   wpAny (model Challenge.rw_pd0171_01.row.prog w) (ktrTop dp un gd cn cs L a ccd cl outer) (call (.ref 248) [.ref lh]) Q E s := by
  revert X
  k_fill
  intro X
  have hmark : WMark (LeastJ [(lh, listOf [].toArray n)] []) := ⟨⟩
  refine wpAny_call ?_
  k_dflt cell_enter
  k_steps
  case kqs =>
    refine ⟨_, rfl, 1024, _, rfl, ⟨List.forall_mem_cons.mpr ⟨(by with_unfolding_all rfl), List.forall_mem_nil _⟩, fun _ _ _ => rfl⟩, by decide, fun j h1 h2 => absurd h1 (by omega)⟩
  case kqt =>
    rintro nn m₁ news₁ h₁ tk₁ F₁ N₁ ⟨rfl, p, tp, rfl, hfr, hp, hj⟩
    have F₂ := hfr.fr F₁
    clear F₁
    try k_fold
    k_steps
    exact ret _ _ _ _ ⟨hp, (by simp), hj⟩ (by k_asm) (by first | exact news_tail (by assumption) | assumption) (by assumption)
theorem least1 {lh : Addr} {n : Nat} {a0 : Addr} {p0 : Int} {n0 : Str} {t0 u0 : Tok} {rest : List (Addr × Obj)}
   (B : Below A₀ base outer h₀) (F : Fr h₀ L s.heap m) (X : (hd.heap_39 w.params).In h₀) (T : Top hd.view_39 (looseW hd.view_39 []) mean mg mb h₀) (hk : cs.kind = .function)
   (hdp : dp + 2 < recursionLimit) (hun : un + 64 < cLine) (NH : HidN h₀ L s.heap [(lh, listOf [.ref a0].toArray n), (a0, { cls := .type "tuple", data := .seq #[.int p0 t0, .str n0 u0] })]) (NR : RestN h₀ L s.heap [(lh, listOf [.ref a0].toArray n), (a0, { cls := .type "tuple", data := .seq #[.int p0 t0, .str n0 u0] })] rest)
   (ret : ∀ r t' h' tk', IsLeast [p0] r → Fr h₀ L h' m → News h₀ L h' [(lh, listOf [.ref a0].toArray n), (a0, { cls := .type "tuple", data := .seq #[.int p0 t0, .str n0 u0] })] → News h₀ L h' rest → Q (.int r t') { s with heap := h', toks := tk' }) :
   wpAny (model Challenge.rw_pd0171_01.row.prog w) (ktrTop dp un gd cn cs L a ccd cl outer) (call (.ref 248) [.ref lh]) Q E s := by
  revert X
  k_fill
  intro X
  have hmark : WMark (LeastJ [(lh, listOf [.ref a0].toArray n), (a0, { cls := .type "tuple", data := .seq #[.int p0 t0, .str n0 u0] })] [p0]) := ⟨⟩
  refine wpAny_call ?_
  k_dflt cell_enter
  k_steps
  case kqs =>
    refine ⟨_, rfl, 1024, _, rfl, ⟨List.forall_mem_cons.mpr ⟨(by with_unfolding_all rfl), List.forall_mem_nil _⟩, fun _ _ _ => rfl⟩, by decide, fun j h1 h2 => absurd h1 (by omega)⟩
  case kqt =>
    rintro nn m₁ news₁ h₁ tk₁ F₁ N₁ ⟨rfl, p, tp, rfl, hfr, hp, hj⟩
    have F₂ := hfr.fr F₁
    clear F₁
    try k_fold
    k_steps
    · refine whileStep_next (n' := ([p0].filter (fun q => decide (p + 1 ≤ q))).length) (by assumption) (news_tail (by assumption)) (filter_lt (any_mem (by assumption))) ⟨rfl, p + 1, _, rfl, ⟨List.forall_mem_cons.mpr ⟨(by with_unfolding_all rfl), List.forall_mem_nil _⟩, ?_⟩, by omega, least_more (any_mem (by assumption)) hj⟩
      intro z hz hs
      have z1 : z ≠ Str.ofString "port" := hz _ (.head _)
      simp only [kstB, if_neg z1, hs, Bool.false_eq_true, if_false]
    · exact ret _ _ _ _ ⟨hp, any_not (by assumption), hj⟩ (by k_asm) (news_tail (by assumption)) (by assumption)
theorem least2 {lh : Addr} {n : Nat} {a0 : Addr} {p0 : Int} {n0 : Str} {t0 u0 : Tok} {a1 : Addr} {p1 : Int} {n1 : Str} {t1 u1 : Tok} {rest : List (Addr × Obj)}
   (B : Below A₀ base outer h₀) (F : Fr h₀ L s.heap m) (X : (hd.heap_39 w.params).In h₀) (T : Top hd.view_39 (looseW hd.view_39 []) mean mg mb h₀) (hk : cs.kind = .function)
   (hdp : dp + 2 < recursionLimit) (hun : un + 64 < cLine) (NH : HidN h₀ L s.heap [(lh, listOf [.ref a0, .ref a1].toArray n), (a0, { cls := .type "tuple", data := .seq #[.int p0 t0, .str n0 u0] }), (a1, { cls := .type "tuple", data := .seq #[.int p1 t1, .str n1 u1] })]) (NR : RestN h₀ L s.heap [(lh, listOf [.ref a0, .ref a1].toArray n), (a0, { cls := .type "tuple", data := .seq #[.int p0 t0, .str n0 u0] }), (a1, { cls := .type "tuple", data := .seq #[.int p1 t1, .str n1 u1] })] rest)
   (ret : ∀ r t' h' tk', IsLeast [p0, p1] r → Fr h₀ L h' m → News h₀ L h' [(lh, listOf [.ref a0, .ref a1].toArray n), (a0, { cls := .type "tuple", data := .seq #[.int p0 t0, .str n0 u0] }), (a1, { cls := .type "tuple", data := .seq #[.int p1 t1, .str n1 u1] })] → News h₀ L h' rest → Q (.int r t') { s with heap := h', toks := tk' }) :
   wpAny (model Challenge.rw_pd0171_01.row.prog w) (ktrTop dp un gd cn cs L a ccd cl outer) (call (.ref 248) [.ref lh]) Q E s := by
  revert X
  k_fill
  intro X
  have hmark : WMark (LeastJ [(lh, listOf [.ref a0, .ref a1].toArray n), (a0, { cls := .type "tuple", data := .seq #[.int p0 t0, .str n0 u0] }), (a1, { cls := .type "tuple", data := .seq #[.int p1 t1, .str n1 u1] })] [p0, p1]) := ⟨⟩
  refine wpAny_call ?_
  k_dflt cell_enter
  k_steps
  case kqs =>
    refine ⟨_, rfl, 1024, _, rfl, ⟨List.forall_mem_cons.mpr ⟨(by with_unfolding_all rfl), List.forall_mem_nil _⟩, fun _ _ _ => rfl⟩, by decide, fun j h1 h2 => absurd h1 (by omega)⟩
  case kqt =>
    rintro nn m₁ news₁ h₁ tk₁ F₁ N₁ ⟨rfl, p, tp, rfl, hfr, hp, hj⟩
    have F₂ := hfr.fr F₁
    clear F₁
    try k_fold
    k_steps
    · refine whileStep_next (n' := ([p0, p1].filter (fun q => decide (p + 1 ≤ q))).length) (by assumption) (news_tail (by assumption)) (filter_lt (any_mem (by assumption))) ⟨rfl, p + 1, _, rfl, ⟨List.forall_mem_cons.mpr ⟨(by with_unfolding_all rfl), List.forall_mem_nil _⟩, ?_⟩, by omega, least_more (any_mem (by assumption)) hj⟩
      intro z hz hs
      have z1 : z ≠ Str.ofString "port" := hz _ (.head _)
      simp only [kstB, if_neg z1, hs, Bool.false_eq_true, if_false]
    · exact ret _ _ _ _ ⟨hp, any_not (by assumption), hj⟩ (by k_asm) (news_tail (by assumption)) (by assumption)
theorem least3 {lh : Addr} {n : Nat} {a0 : Addr} {p0 : Int} {n0 : Str} {t0 u0 : Tok} {a1 : Addr} {p1 : Int} {n1 : Str} {t1 u1 : Tok} {a2 : Addr} {p2 : Int} {n2 : Str} {t2 u2 : Tok} {rest : List (Addr × Obj)}
   (B : Below A₀ base outer h₀) (F : Fr h₀ L s.heap m) (X : (hd.heap_39 w.params).In h₀) (T : Top hd.view_39 (looseW hd.view_39 []) mean mg mb h₀) (hk : cs.kind = .function)
   (hdp : dp + 2 < recursionLimit) (hun : un + 64 < cLine) (NH : HidN h₀ L s.heap [(lh, listOf [.ref a0, .ref a1, .ref a2].toArray n), (a0, { cls := .type "tuple", data := .seq #[.int p0 t0, .str n0 u0] }), (a1, { cls := .type "tuple", data := .seq #[.int p1 t1, .str n1 u1] }), (a2, { cls := .type "tuple", data := .seq #[.int p2 t2, .str n2 u2] })]) (NR : RestN h₀ L s.heap [(lh, listOf [.ref a0, .ref a1, .ref a2].toArray n), (a0, { cls := .type "tuple", data := .seq #[.int p0 t0, .str n0 u0] }), (a1, { cls := .type "tuple", data := .seq #[.int p1 t1, .str n1 u1] }), (a2, { cls := .type "tuple", data := .seq #[.int p2 t2, .str n2 u2] })] rest)
   (ret : ∀ r t' h' tk', IsLeast [p0, p1, p2] r → Fr h₀ L h' m → News h₀ L h' [(lh, listOf [.ref a0, .ref a1, .ref a2].toArray n), (a0, { cls := .type "tuple", data := .seq #[.int p0 t0, .str n0 u0] }), (a1, { cls := .type "tuple", data := .seq #[.int p1 t1, .str n1 u1] }), (a2, { cls := .type "tuple", data := .seq #[.int p2 t2, .str n2 u2] })] → News h₀ L h' rest → Q (.int r t') { s with heap := h', toks := tk' }) :
   wpAny (model Challenge.rw_pd0171_01.row.prog w) (ktrTop dp un gd cn cs L a ccd cl outer) (call (.ref 248) [.ref lh]) Q E s := by
  revert X
  k_fill
  intro X
  have hmark : WMark (LeastJ [(lh, listOf [.ref a0, .ref a1, .ref a2].toArray n), (a0, { cls := .type "tuple", data := .seq #[.int p0 t0, .str n0 u0] }), (a1, { cls := .type "tuple", data := .seq #[.int p1 t1, .str n1 u1] }), (a2, { cls := .type "tuple", data := .seq #[.int p2 t2, .str n2 u2] })] [p0, p1, p2]) := ⟨⟩
  refine wpAny_call ?_
  k_dflt cell_enter
  k_steps
  case kqs =>
    refine ⟨_, rfl, 1024, _, rfl, ⟨List.forall_mem_cons.mpr ⟨(by with_unfolding_all rfl), List.forall_mem_nil _⟩, fun _ _ _ => rfl⟩, by decide, fun j h1 h2 => absurd h1 (by omega)⟩
  case kqt =>
    rintro nn m₁ news₁ h₁ tk₁ F₁ N₁ ⟨rfl, p, tp, rfl, hfr, hp, hj⟩
    have F₂ := hfr.fr F₁
    clear F₁
    try k_fold
    k_steps
    · refine whileStep_next (n' := ([p0, p1, p2].filter (fun q => decide (p + 1 ≤ q))).length) (by assumption) (news_tail (by assumption)) (filter_lt (any_mem (by assumption))) ⟨rfl, p + 1, _, rfl, ⟨List.forall_mem_cons.mpr ⟨(by with_unfolding_all rfl), List.forall_mem_nil _⟩, ?_⟩, by omega, least_more (any_mem (by assumption)) hj⟩
      intro z hz hs
      have z1 : z ≠ Str.ofString "port" := hz _ (.head _)
      simp only [kstB, if_neg z1, hs, Bool.false_eq_true, if_false]
    · exact ret _ _ _ _ ⟨hp, any_not (by assumption), hj⟩ (by k_asm) (news_tail (by assumption)) (by assumption)
end
end
section
open PySem PySem.W PyProof.Rows PySem.Calls PySem.Spec PyProof.V
set_option maxRecDepth 100000
set_option maxHeartbeats 400000
/-! the machine that both readings follow -/
structure DS where
  names : List Str
  held : List (Int × Str)
  log : List Dat
def PP (names : List Str) : Str := Str.ofString "/" ++ Str.join (Str.ofString "/") names
def filesGo (i : Nat) (names : List Str) : List Str := match i with
  | 0 => names ++ [Str.ofString "a"]
  | 1 => names ++ [Str.ofString "q\""]
  | 2 => names.dropLast ++ [Str.ofString "n (|||7|)"]
  | 3 => names ++ [Str.ofString "b"]
  | _ => [Str.ofString "x"]
def waysGo (i : Nat) (names : List Str) : List Str := match i with
  | 0 => names ++ [Str.ofString "a"]
  | 1 => names.dropLast
  | 2 => names ++ [Str.ofString "q\""]
  | 3 => []
  | _ => names ++ [Str.ofString "b"]
open Classical in
noncomputable def leastP (ports : List Int) : Int := if h : ∃ r, IsLeast ports r then h.choose else 0
theorem IsLeast.unique {ports : List Int} {r q : Int} (h : IsLeast ports r) (k : IsLeast ports q) : r = q := by
  obtain ⟨h1, h2, h3⟩ := h
  obtain ⟨k1, k2, k3⟩ := k
  by_cases e : r < q
  · exact absurd (k3 r h1 e) h2
  · by_cases e2 : q < r
    · exact absurd (h3 q k1 e2) k2
    · omega
theorem leastP_is {ports : List Int} {r : Int} (h : IsLeast ports r) : leastP ports = r := by
  unfold leastP
  rw [dif_pos ⟨r, h⟩]
  exact (Exists.choose_spec (⟨r, h⟩ : ∃ r, IsLeast ports r)).unique h
noncomputable def openOne (d : DS) (held : List (Int × Str)) (i : Nat) : DS :=
  ⟨d.names, held ++ [(leastP (held.map (·.1)), PP (filesGo i d.names))], d.log ++ [.tuple [.str (Str.ofString "::1"), .int (leastP (held.map (·.1))), .str (PP (filesGo i d.names))]]⟩
noncomputable def step (d : DS) (x : Int) : DS :=
  if x % 6 = 3 then ⟨waysGo (x / 6 % 5).toNat d.names, d.held, d.log ++ [.str (PP (waysGo (x / 6 % 5).toNat d.names))]⟩
  else if x % 6 = 2 ∨ x % 6 = 4 then
    if d.held = [] then d
    else if x % 6 = 4 then openOne d (d.held.eraseIdx (x / 6 % d.held.length).toNat) (x / 6 % 5).toNat
    else ⟨d.names, d.held.eraseIdx (x / 6 % d.held.length).toNat, d.log⟩
  else if d.held.length = 4 then ⟨d.names, d.held, d.log ++ [.str (Str.ofString "no more")]⟩
  else if x % 6 = 5 then ⟨d.names, d.held, d.log ++ [.str (Str.ofString "no mark")]⟩
  else openOne d d.held (x / 6 % 5).toNat
def d0 : DS := ⟨[], [], []⟩
end
section
open PySem PySem.W PyProof.Rows PySem.Calls PySem.Spec
set_option maxRecDepth 100000
set_option maxHeartbeats 0
theorem lines_C4_1 : True := by
  k_with_none
  k_with "eval Constant int" => (refine flat_int ?_)
  k_with "eval Constant str" => (refine flat_str ?_)
  k_with "call builtin:issubclass" => (k_here; k_dflt (refine' issub_call ?kqk1 ?_; (case kqk1 => exact News.get (by k_asm) (by k_mem)); k_whole); intro tk)
  k_with "binaryOp Add str str" => (k_here; k_dflt (refine' s_add ?kqz ?_; (case kqz => (simp only [Str.length_append] at *; omega)); k_whole); intro t' k')
  k_with "binaryOp Mult str int" => (k_here; k_dflt (refine' s_mul3 ?_; k_whole); intro t' k')
  k_with "call type:str" => (k_here; k_dflt (refine' s_str ?kqz ?kqy ?_; (case kqz => omega); (case kqy => omega); k_whole); intro t' k')
  trivial
section
variable {w : World} {mean : ExcName → Option Value} {mg mb : Str → Option Value} {dp un : Nat} {gd : Option (List Code)} {cn : Str} {cs : Scope} {a : Addr} {ccd : Value} {cl : List (Str × Addr)} {outer : List Env} {A₀ : Around} {base h₀ : Heap} {L : Addr} {m : Str → Option Value} {news : List (Addr × Obj)} {s : Shared} {Q E : Value → Shared → Prop}
/-- the head of an answer: all that stands ahead of the file's name -/
def pre229 (c : Nat) (p : Int) : Str := Str.ofString "229 ok (" ++ ⟨#[c, c, c]⟩ ++ Str.ofString (toString p) ++ ⟨#[c]⟩ ++ Str.ofString ") for "
theorem answer_spec {p : Int} {c : Nat} {nm : Str} {t1 t2 t3 : Tok} (hp : 0 ≤ p) (hp2 : p < 100000) (hn : nm.length ≤ 1000)
   (B : Below A₀ base outer h₀) (F : Fr h₀ L s.heap m) (X : (hd.heap_39 w.params).In h₀) (N : News h₀ L s.heap news) (T : Top hd.view_39 (looseW hd.view_39 []) mean mg mb h₀) (hk : cs.kind = .function)
   (hdp : dp + 1 < recursionLimit) (hun : un + 8 < cLine)
   (ret : ∀ t' h' tk', Fr h₀ L h' m → News h₀ L h' news → Q (.str (pre229 c p ++ nm) t') { s with heap := h', toks := tk' }) :
   wpAny (model Challenge.rw_pd0171_01.row.prog w) (ktrTop dp un gd cn cs L a ccd cl outer) (call (.ref 229) [.int p t1, .str ⟨#[c]⟩ t2, .str nm t3]) Q E s := by
  revert X
  k_fill
  intro X
  have NH : HidN h₀ L s.heap [] := HidN.none
  have NR : RestN h₀ L s.heap [] news := RestN.all N
  have e1 : (Str.ofString "229 ok (").length = 8 := by decide +kernel
  have e2 : (Str.ofString ") for ").length = 6 := by decide +kernel
  have e3 : (⟨#[c, c, c]⟩ : Str).length = 3 := rfl
  have e4 : (⟨#[c]⟩ : Str).length = 1 := rfl
  have e5 := len_str_of_int p
  refine wpAny_call ?_
  k_dflt cell_enter
  k_steps
  exact ret _ _ _ (by k_asm) (by assumption)

def filesT : List Str := [Str.ofString "a", Str.ofString "q\"", Str.ofString "../n (|||7|)", Str.ofString ".//b", Str.ofString "/x"]
def waysT : List Str := [Str.ofString "a", Str.ofString "..", Str.ofString "q\"", Str.ofString "/", Str.ofString ".//b"]
theorem words_spec 
   (B : Below A₀ base outer h₀) (F : Fr h₀ L s.heap m) (X : (hd.heap_39 w.params).In h₀) (N : News h₀ L s.heap news) (T : Top hd.view_39 (looseW hd.view_39 []) mean mg mb h₀) (hk : cs.kind = .function)
   (hdp : dp + 1 < recursionLimit) (hun : un + 8 < cLine)
   (ret : ∀ D lf lw vf vw nf nw h' tk', lf < lw → lw < D → StrsAre vf filesT → StrsAre vw waysT → Fr h₀ L h' m → News h₀ L h' ((D, { cls := .type "tuple", data := .seq #[.ref lf, .ref lw] }) :: (lw, listOf vw.toArray nw) :: (lf, listOf vf.toArray nf) :: news) → Q (.ref D) { s with heap := h', toks := tk' }) :
   wpAny (model Challenge.rw_pd0171_01.row.prog w) (ktrTop dp un gd cn cs L a ccd cl outer) (call (.ref 222) []) Q E s := by
  revert X
  k_fill
  intro X
  have NH : HidN h₀ L s.heap [] := HidN.none
  have NR : RestN h₀ L s.heap [] news := RestN.all N
  refine wpAny_call ?_
  k_dflt cell_enter
  k_steps
  refine ret _ _ _ [_, _, _, _, _] [_, _, _, _, _] _ _ _ _ ?l1 ?l2 (.cons _ _ (.cons _ _ (.cons _ _ (.cons _ _ (.cons _ _ .nil))))) (.cons _ _ (.cons _ _ (.cons _ _ (.cons _ _ (.cons _ _ .nil))))) (by k_asm) (fun p hp => (List.mem_append.mp (show p ∈ [_, _, _] ++ _ from hp)).elim (fun h => (by assumption : News h₀ L _ _) p h) (fun h => (by assumption : News h₀ L _ news) p h))
  case l1 => exact ltN (by omega)
  case l2 => exact ltN (by omega)
end
end
section
open PySem PySem.W PyProof.Rows PySem.Calls PySem.Spec
set_option maxRecDepth 100000
set_option maxHeartbeats 0
theorem lines_C1_1 : True := by
  k_with_none
  k_with "eval Constant int" => (refine flat_int ?_)
  k_with "eval Constant str" => (refine flat_str ?_)
  k_with "call builtin:issubclass" => (k_here; k_dflt (refine' issub_call ?kqk1 ?_; (case kqk1 => exact News.get (by k_asm) (by k_mem)); k_whole); intro tk)
  trivial
section
variable {w : World} {mean : ExcName → Option Value} {mg mb : Str → Option Value} {dp un : Nat} {gd : Option (List Code)} {cn : Str} {cs : Scope} {a : Addr} {ccd : Value} {cl : List (Str × Addr)} {outer : List Env} {A₀ : Around} {base h₀ : Heap} {L : Addr} {m : Str → Option Value} {news : List (Addr × Obj)} {s : Shared} {Q E : Value → Shared → Prop}
theorem fspath_spec {x : Str} {t : Tok}
   (B : Below A₀ base outer h₀) (F : Fr h₀ L s.heap m) (X : (hd.heap_39 w.params).In h₀) (N : News h₀ L s.heap news) (T : Top hd.view_39 (looseW hd.view_39 []) mean mg mb h₀) (hk : cs.kind = .function)
   (hdp : dp + 1 < recursionLimit) (hun : un + 8 < cLine)
   (ret : ∀ h' tk', Fr h₀ L h' m → News h₀ L h' news → Q (.str x t) { s with heap := h', toks := tk' }) :
   wpAny (model Challenge.rw_pd0171_01.row.prog w) (ktrTop dp un gd cn cs L a ccd cl outer) (call (.ref 180) [.str x t]) Q E s := by
  revert X
  k_fill
  intro X
  have NH : HidN h₀ L s.heap [] := HidN.none
  have NR : RestN h₀ L s.heap [] news := RestN.all N
  refine wpAny_call ?_
  k_dflt cell_enter
  k_steps
  exact ret _ _ (by k_asm) (by assumption)
theorem sep_spec {x : Str} {t : Tok}
   (B : Below A₀ base outer h₀) (F : Fr h₀ L s.heap m) (X : (hd.heap_39 w.params).In h₀) (N : News h₀ L s.heap news) (T : Top hd.view_39 (looseW hd.view_39 []) mean mg mb h₀) (hk : cs.kind = .function)
   (hdp : dp + 1 < recursionLimit) (hun : un + 8 < cLine)
   (ret : ∀ t' h' tk', Fr h₀ L h' m → News h₀ L h' news → Q (.str (Str.ofString "/") t') { s with heap := h', toks := tk' }) :
   wpAny (model Challenge.rw_pd0171_01.row.prog w) (ktrTop dp un gd cn cs L a ccd cl outer) (call (.ref 194) [.str x t]) Q E s := by
  revert X
  k_fill
  intro X
  have NH : HidN h₀ L s.heap [] := HidN.none
  have NR : RestN h₀ L s.heap [] news := RestN.all N
  refine wpAny_call ?_
  k_dflt cell_enter
  k_steps
  exact ret _ _ _ (by k_asm) (by assumption)

theorem lines_C1_2 : True := by
  k_with "call ref" => (k_here; k_dflt (refine' fspath_spec  ?kqk1 ?kqk2 ?kqk3 ?kqk4 ?kqk5 ?kqkK ?kqkd ?kqku ?_; (case kqk1 => k_asm); (case kqk2 => k_asm); (case kqk3 => k_asm); (case kqk4 => k_asm); (case kqk5 => k_asm); (case kqkK => first | exact rfl | assumption); (case kqkd => ktr_room); (case kqku => ktr_units); k_whole); intro h' tk' F' N'; (try k_sweep))
  k_with "call ref" => (k_here; k_dflt (refine' sep_spec  ?kqk1 ?kqk2 ?kqk3 ?kqk4 ?kqk5 ?kqkK ?kqkd ?kqku ?_; (case kqk1 => k_asm); (case kqk2 => k_asm); (case kqk3 => k_asm); (case kqk4 => k_asm); (case kqk5 => k_asm); (case kqkK => first | exact rfl | assumption); (case kqkd => ktr_room); (case kqku => ktr_units); k_whole); intro t' h' tk' F' N'; (try k_sweep))
  trivial
/-- what splitroot gives for a text -/
def rootP (x : Str) : Str × Str :=
  if (Txt.slice x none (some 1) != Str.ofString "/") = true then (Str.ofString "", x)
  else if (Txt.slice x (some 1) (some 2) != Str.ofString "/") = true then (Str.ofString "/", Txt.slice x (some 1) none)
  else if (Txt.slice x (some 2) (some 3) == Str.ofString "/") = true then (Str.ofString "/", Txt.slice x (some 1) none)
  else (Txt.slice x none (some 2), Txt.slice x (some 2) none)
theorem bne_f {c : Bool} (h : c = false) : ¬ c = true := by simp [h]
theorem rootP1 {x : Str} (h : (Txt.slice x none (some 1) != Str.ofString "/") = true) : rootP x = (Str.ofString "", x) := by unfold rootP; rw [if_pos h]
theorem rootP2 {x : Str} (h : (Txt.slice x none (some 1) != Str.ofString "/") = false) (h2 : (Txt.slice x (some 1) (some 2) != Str.ofString "/") = true) : rootP x = (Str.ofString "/", Txt.slice x (some 1) none) := by unfold rootP; rw [if_neg (bne_f h), if_pos h2]
theorem rootP3 {x : Str} (h : (Txt.slice x none (some 1) != Str.ofString "/") = false) (h2 : (Txt.slice x (some 1) (some 2) != Str.ofString "/") = false) (h3 : (Txt.slice x (some 2) (some 3) == Str.ofString "/") = true) : rootP x = (Str.ofString "/", Txt.slice x (some 1) none) := by unfold rootP; rw [if_neg (bne_f h), if_neg (bne_f h2), if_pos h3]
theorem rootP4 {x : Str} (h : (Txt.slice x none (some 1) != Str.ofString "/") = false) (h2 : (Txt.slice x (some 1) (some 2) != Str.ofString "/") = false) (h3 : (Txt.slice x (some 2) (some 3) == Str.ofString "/") = false) : rootP x = (Txt.slice x none (some 2), Txt.slice x (some 2) none) := by unfold rootP; rw [if_neg (bne_f h), if_neg (bne_f h2), if_neg (bne_f h3)]
theorem splitroot_spec {x y z : Str} {t : Tok} (hx : x.length ≤ 1000) (hr : rootP x = (y, z))
   (B : Below A₀ base outer h₀) (F : Fr h₀ L s.heap m) (X : (hd.heap_39 w.params).In h₀) (N : News h₀ L s.heap news) (T : Top hd.view_39 (looseW hd.view_39 []) mean mg mb h₀) (hk : cs.kind = .function)
   (hdp : dp + 2 < recursionLimit) (hun : un + 16 < cLine)
   (ret : ∀ r t1 t2 t3 h' tk', Fr h₀ L h' m → News h₀ L h' ((r, { cls := .type "tuple", data := .seq #[.str (Str.ofString "") t1, .str y t2, .str z t3] }) :: news) → Q (.ref r) { s with heap := h', toks := tk' }) :
   wpAny (model Challenge.rw_pd0171_01.row.prog w) (ktrTop dp un gd cn cs L a ccd cl outer) (call (.ref 208) [.str x t]) Q E s := by
  revert X
  k_fill
  intro X
  have NH : HidN h₀ L s.heap [] := HidN.none
  have NR : RestN h₀ L s.heap [] news := RestN.all N
  refine wpAny_call ?_
  k_dflt cell_enter
  k_steps
  all_goals ((first | rw [rootP1 (by assumption)] at hr | rw [rootP2 (by assumption) (by assumption)] at hr | rw [rootP3 (by assumption) (by assumption) (by assumption)] at hr | rw [rootP4 (by assumption) (by assumption) (by assumption)] at hr); (cases hr); (refine ret _ _ _ _ _ _ (by k_asm) (news_pre (a := [_]) (by assumption) (List.Mem.head _) (by assumption))))

def joinP (x y : Str) : Str := if Txt.startswith y (Str.ofString "/") = true then y else if Txt.endswith x (Str.ofString "/") = true then x ++ y else x ++ (Str.ofString "/" ++ y)
theorem joinP1 {x y : Str} (h : Txt.startswith y (Str.ofString "/") = true) : joinP x y = y := by unfold joinP; rw [if_pos h]
theorem joinP2 {x y : Str} (h : Txt.startswith y (Str.ofString "/") = false) (h2 : Txt.endswith x (Str.ofString "/") = true) : joinP x y = x ++ y := by unfold joinP; rw [if_neg (bne_f h), if_pos h2]
theorem joinP3 {x y : Str} (h : Txt.startswith y (Str.ofString "/") = false) (h2 : Txt.endswith x (Str.ofString "/") = false) : joinP x y = x ++ (Str.ofString "/" ++ y) := by unfold joinP; rw [if_neg (bne_f h), if_neg (bne_f h2)]
theorem kept_news {h₀ h g h' : Heap} {L L' : Addr} {m' : Str → Option Value} {rest : List (Addr × Obj)} (hr : ∀ p ∈ rest, g.get? p.1 = some p.2) (N : News h₀ L h rest) (F' : Fr g L' h' m') : News h₀ L h' rest := fun p hp => ⟨F'.keep _ _ (hr p hp), (N p hp).2⟩
theorem join_spec {x y : Str} {t u : Tok} (hx : x.length ≤ 400) (hy : y.length ≤ 400) (hx0 : 0 < x.length)
   (B : Below A₀ base outer h₀) (F : Fr h₀ L s.heap m) (X : (hd.heap_39 w.params).In h₀) (N : News h₀ L s.heap news) (T : Top hd.view_39 (looseW hd.view_39 []) mean mg mb h₀) (hk : cs.kind = .function)
   (hdp : dp + 2 < recursionLimit) (hun : un + 16 < cLine)
   (ret : ∀ t' h' tk', Fr h₀ L h' m → News h₀ L h' news → Q (.str (joinP x y) t') { s with heap := h', toks := tk' }) :
   wpAny (model Challenge.rw_pd0171_01.row.prog w) (ktrTop dp un gd cn cs L a ccd cl outer) (call (.ref 201) [.str x t, .str y u]) Q E s := by
  revert X
  k_fill
  intro X
  have NH : HidN h₀ L s.heap [] := HidN.none
  have NR : RestN h₀ L s.heap [] news := RestN.all N
  refine wpAny_call ?_
  k_dflt (refine' code_restR ?k1 ?k2 ?k3 N ?k5 ?kA ?kF ?kK ?k6 ?k7 ?k8 ?kV ?kP ?kG ?kB ?_ ?c2 ?c3 ?c4 ?c5; (case kA => exact rfl); (case kF => exact rfl); (case kK => assumption); (case k1 => k_asm); (case k2 => k_asm); (case k3 => k_asm); (case k5 => k_asm); (case k6 => k_is); (case k7 => k_is); (case k8 => ktr_room); (case kV => kl_lit); (case kP => exact rfl); (case kG => exact fun _ => rfl); (case kB => exact fun _ => locs rfl); (case c5 => decide); (case c2 => exact rfl); (case c3 => exact rfl); (case c4 => exact rfl); k_whole; intro D' g' L' h' FG' F' N' B' X' T'; (try dsimp only); (try k_lift B'); (try k_fold))
  k_steps
  all_goals ((first | rw [joinP1 (by assumption)] at ret | rw [joinP2 (by assumption) (by assumption)] at ret | rw [joinP3 (by assumption) (by assumption)] at ret | (exfalso; omega)) <;> exact ret _ _ _ (by k_asm) (by assumption))
end
end
section
open PySem PySem.W PyProof.Rows PySem.Calls PySem.Spec
set_option maxRecDepth 100000
set_option maxHeartbeats 0
theorem lines_C2_1 : True := by
  k_with_none
  k_with "eval Constant int" => (refine flat_int ?_)
  k_with "eval Constant str" => (refine flat_str ?_)
  k_with "call builtin:issubclass" => (k_here; k_dflt (refine' issub_call ?kqk1 ?_; (case kqk1 => exact News.get (by k_asm) (by k_mem)); k_whole); intro tk)
  k_with "call builtin:str.split" => (k_here; (with_reducible show wpAny _ _ (call (Value.builtin "str.split") _) _ _ _); k_dflt (refine' KSpl.split1 ?kqsF ?kqsN ?kqsy ?_ ?kqsz; (case kqsF => k_asm); (case kqsN => k_asm); (case kqsy => decide); (case kqsz => first | kspl_size | (refine Nat.le_trans (Nat.add_le_add_right (by assumption) 2) (Nat.le_of_ble_eq_true rfl))); k_whole); intro D' l' h' k' e' a' F' N' l1; (try k_lt l1); (try k_sweep))
  k_with "call builtin:list.append" => (k_here; k_dflt (refine' l_append ?kqk1 ?kqk2 ?kqk3 ?kqz ?_; (case kqk1 => k_asm); (case kqk2 => k_asm); (case kqk3 => k_upd); (case kqz => first | omega | (simp only [List.length_append, List.length_cons, List.length_nil]; omega)); k_whole); intro h' F' N'; (try k_sweep))
  k_with "truthy ref" => (k_here; k_dflt (refine' l_truthy ?kqk1 ?kqk2 ?kqz ?_; (case kqk1 => k_asm); (case kqk2 => k_mem); (case kqz => first | omega | (simp only [List.length_append, List.length_cons, List.length_nil]; omega)); k_whole); intro k'; (try simp only [isEmpty_snoc, List.isEmpty_cons, List.isEmpty_nil, Bool.and_false, Bool.and_true, Bool.not_false, Bool.not_true]))
  k_with "call builtin:list.pop" => (k_here; k_dflt (refine' l_pop ?kqk1 ?kqk2 ?kqk3 ?kqz ?_; (case kqk1 => k_asm); (case kqk2 => k_asm); (case kqk3 => k_upd); (case kqz => omega); k_whole); intro h' F' N'; (try k_sweep))
  k_with "subscriptTail" => (k_here; (with_reducible show wpAny _ _ (subscriptTail _ _ (Value.ref _) (Value.int _ _)) _ _ _); k_dflt (refine' l_last ?kqk1 ?kqk2 ?_ ?kqk6; (case kqk1 => k_asm); (case kqk2 => k_mem); (case kqk6 => with_unfolding_all rfl); k_whole))
  k_with "call builtin:str.join" => (k_here; k_dflt (refine' l_join ?kqk1 ?kqk2 ?kqk3 ?kqz ?_; (case kqk1 => k_asm); (case kqk2 => k_mem); (case kqk3 => assumption); (case kqz => assumption); k_whole); intro t' k')
  trivial
section
variable {w : World} {mean : ExcName → Option Value} {mg mb : Str → Option Value} {dp un : Nat} {gd : Option (List Code)} {cn : Str} {cs : Scope} {a : Addr} {ccd : Value} {cl : List (Str × Addr)} {outer : List Env} {A₀ : Around} {base h₀ : Heap} {L : Addr} {m : Str → Option Value} {news : List (Addr × Obj)} {s : Shared} {Q E : Value → Shared → Prop}

theorem lines_C2_2 : True := by
  k_with "call ref" => (k_here; k_dflt (refine' fspath_spec  ?kqk1 ?kqk2 ?kqk3 ?kqk4 ?kqk5 ?kqkK ?kqkd ?kqku ?_; (case kqk1 => k_asm); (case kqk2 => k_asm); (case kqk3 => k_asm); (case kqk4 => k_asm); (case kqk5 => k_asm); (case kqkK => first | exact rfl | assumption); (case kqkd => ktr_room); (case kqku => ktr_units); k_whole); intro h' tk' F' N'; (try k_sweep))
  k_with "call ref" => (k_here; k_dflt (refine' splitroot_spec ?kqhx ?kqhr ?kqk1 ?kqk2 ?kqk3 ?kqk4 ?kqk5 ?kqkK ?kqkd ?kqku ?_; (case kqk1 => k_asm); (case kqk2 => k_asm); (case kqk3 => k_asm); (case kqk4 => k_asm); (case kqk5 => k_asm); (case kqkK => first | exact rfl | assumption); (case kqkd => ktr_room); (case kqku => ktr_units); (case kqhx => omega); (case kqhr => assumption); k_whole); intro r' t1' t2' t3' h' tk' F' N'; (try k_sweep))
  trivial
theorem strValues_get {l : List (Str × Tok)} {i : Nat} {v : Value} (h : (strValues l)[i]? = some v) : ∃ y u, v = .str y u ∧ (l.map (·.1))[i]? = some y := by
  unfold strValues at h
  rw [List.getElem?_map] at h
  rw [List.getElem?_map]
  cases e : l[i]? with
  | none => rw [e] at h; cases h
  | some p => rw [e] at h; exact ⟨p.1, p.2, (Option.some.inj h).symm, rfl⟩
def normStep (acc : List Str) (c : Str) : List Str :=
  if c.length = 0 then acc else if (c == Str.ofString ".") = true then acc else if (c == Str.ofString "..") = true then acc.dropLast else acc ++ [c]
def normC (cs : List Str) : List Str := cs.foldl normStep []
theorem normStep_empty {acc : List Str} {c : Str} (h : ((c.length : Nat) : Int) = 0) : normStep acc c = acc := by unfold normStep; rw [if_pos (by omega)]
theorem normStep_dot {acc : List Str} {c : Str} (h : ((c.length : Nat) : Int) ≠ 0) (h2 : (c == Str.ofString ".") = true) : normStep acc c = acc := by unfold normStep; rw [if_neg (by omega), if_pos h2]
theorem normStep_up {acc : List Str} {c : Str} (h : ((c.length : Nat) : Int) ≠ 0) (h2 : (c == Str.ofString ".") = false) (h3 : (c != Str.ofString "..") = false) : normStep acc c = acc.dropLast := by
  unfold normStep; rw [if_neg (by omega), if_neg (bne_f h2), if_pos (by simpa [bne] using h3)]
theorem normStep_on {acc : List Str} {c : Str} (h : ((c.length : Nat) : Int) ≠ 0) (h2 : (c == Str.ofString ".") = false) (h3 : (c != Str.ofString "..") = true) : normStep acc c = acc ++ [c] := by
  unfold normStep; rw [if_neg (by omega), if_neg (bne_f h2), if_neg (by simpa [bne] using h3)]
/-- what holds between the turns -/
def NormI (cs : List Str) (i : Nat) (c : List Value × Nat) : Prop := StrsAre c.1 (normC (cs.take i)) ∧ (∀ y ∈ normC (cs.take i), (y == Str.ofString "..") = false) ∧ c.1.length ≤ i
theorem normC_step {cs : List Str} {i : Nat} {y : Str} (hy : cs[i]? = some y) : normC (cs.take (i + 1)) = normStep (normC (cs.take i)) y := by
  unfold normC
  rw [List.take_add_one, hy]
  simp
theorem NormI.same {cs : List Str} {i : Nat} {y : Str} {vs : List Value} {n n' : Nat} (h : NormI cs i (vs, n)) (hy : cs[i]? = some y) (e : normStep (normC (cs.take i)) y = normC (cs.take i)) : NormI cs (i + 1) (vs, n') := by
  unfold NormI at *
  rw [normC_step hy, e]
  exact ⟨h.1, h.2.1, Nat.le_succ_of_le h.2.2⟩
theorem NormI.on {cs : List Str} {i : Nat} {y : Str} {u : Tok} {vs : List Value} {n n' : Nat} (h : NormI cs i (vs, n)) (hy : cs[i]? = some y) (h1 : ((y.length : Nat) : Int) ≠ 0) (h2 : (y == Str.ofString ".") = false) (h3 : (y != Str.ofString "..") = true) : NormI cs (i + 1) (vs ++ [.str y u], n') := by
  unfold NormI at *
  rw [normC_step hy, normStep_on h1 h2 h3]
  refine ⟨StrsAre.append' h.1 (.cons y u .nil), fun z hz => ?_, by simpa using h.2.2⟩
  rcases List.mem_append.mp hz with hz | hz
  · exact h.2.1 z hz
  · rw [List.mem_singleton.mp hz]; simpa [bne] using h3
theorem strs_snoc : ∀ {p : List Value} {v : Value} {ts : List Str}, StrsAre (p ++ [v]) ts → StrsAre p ts.dropLast ∧ ∃ y u, v = .str y u ∧ y ∈ ts
  | [], v, ts, h => by cases h with | cons y u r => cases r; exact ⟨.nil, y, u, rfl, .head _⟩
  | a :: p, v, ts, h => by
    cases h with
    | cons y u r =>
      obtain ⟨h1, z, t, e, hz⟩ := strs_snoc r
      have hne : ∀ l : List Str, StrsAre (p ++ [v]) l → l ≠ [] := fun l hl e => by subst e; have := StrsAre.length hl; simp at this
      refine ⟨?_, z, t, e, .tail _ hz⟩
      rw [List.dropLast_cons_of_ne_nil (hne _ r)]
      exact .cons y u h1
theorem NormI.up {cs : List Str} {i : Nat} {y : Str} {p : List Value} {v : Value} {n n' : Nat} (h : NormI cs i (p ++ [v], n)) (hy : cs[i]? = some y) (h1 : ((y.length : Nat) : Int) ≠ 0) (h2 : (y == Str.ofString ".") = false) (h3 : (y != Str.ofString "..") = false) : NormI cs (i + 1) (p, n') := by
  unfold NormI at *
  rw [normC_step hy, normStep_up h1 h2 h3]
  refine ⟨(strs_snoc h.1).1, fun z hz => h.2.1 z (List.dropLast_subset _ hz), ?_⟩
  have := h.2.2
  simp only [List.length_append, List.length_cons, List.length_nil] at this
  show p.length ≤ i + 1
  omega
theorem NormI.upNil {cs : List Str} {i : Nat} {y : Str} {n n' : Nat} (h : NormI cs i ([], n)) (hy : cs[i]? = some y) (h1 : ((y.length : Nat) : Int) ≠ 0) (h2 : (y == Str.ofString ".") = false) (h3 : (y != Str.ofString "..") = false) : NormI cs (i + 1) ([], n') := by
  refine h.same hy ?_
  rw [normStep_up h1 h2 h3]
  unfold NormI at h
  have e := StrsAre.length h.1
  have e2 : normC (cs.take i) = [] := List.length_eq_zero_iff.mp (by simpa using e.symm)
  rw [e2]; rfl
theorem NormI.last {cs : List Str} {i : Nat} {p : List Value} {y : Str} {u : Tok} {n : Nat} (h : NormI cs i (p ++ [.str y u], n)) : (y == Str.ofString "..") = false := by
  obtain ⟨_, z, t, e, hz⟩ := strs_snoc h.1
  cases e
  exact h.2.1 _ hz
theorem join_len_ge (sep : Str) : ∀ l : List Str, (l.map (·.length)).sum + l.length * sep.length ≤ (Str.join sep l).length + sep.length
  | [] => by simp [Str.join]
  | [x] => by simp [Str.join]
  | x :: y :: r => by
    have ih := join_len_ge sep (y :: r)
    simp only [Str.join, Str.length_append, List.map_cons, List.sum_cons, List.length_cons] at *
    rw [Nat.add_mul]
    omega
theorem split_weight (z : Str) : ((Txt.split z (Str.ofString "/")).map (·.length)).sum + (Txt.split z (Str.ofString "/")).length ≤ z.length + 1 := by
  have h := join_len_ge (Str.ofString "/") (Txt.split z (Str.ofString "/"))
  rw [StrLaws.join_split] at h
  have e : (Str.ofString "/").length = 1 := by decide +kernel
  rw [e] at h
  omega
theorem normStep_weight (acc : List Str) (c : Str) : ((normStep acc c).map (·.length)).sum + (normStep acc c).length ≤ (acc.map (·.length)).sum + acc.length + (c.length + 1) := by
  unfold normStep
  split
  · omega
  · split
    · omega
    · split
      · have h : ∀ l : List Str, (l.dropLast.map (·.length)).sum + l.dropLast.length ≤ (l.map (·.length)).sum + l.length := by
          intro l
          rcases List.eq_nil_or_concat l with rfl | ⟨p, v, rfl⟩
          · simp
          · simp; omega
        have := h acc
        omega
      · simp; omega
theorem norm_weight : ∀ (cs acc : List Str), ((cs.foldl normStep acc).map (·.length)).sum + (cs.foldl normStep acc).length ≤ (acc.map (·.length)).sum + acc.length + ((cs.map (·.length)).sum + cs.length)
  | [], acc => by simp
  | c :: cs, acc => by
    have h1 := norm_weight cs (normStep acc c)
    have h2 := normStep_weight acc c
    simp only [List.foldl_cons, List.map_cons, List.sum_cons, List.length_cons]
    omega
theorem normC_weight (z : Str) : ((normC (Txt.split z (Str.ofString "/"))).map (·.length)).sum + (normC (Txt.split z (Str.ofString "/"))).length ≤ z.length + 1 := by
  have h1 := norm_weight (Txt.split z (Str.ofString "/")) []
  have h2 := split_weight z
  unfold normC
  simp at h1
  omega
theorem join_norm_len (z : Str) : (Str.join (Str.ofString "/") (normC (Txt.split z (Str.ofString "/")))).length ≤ z.length + 1 := by
  have h1 := StrLaws.join_length_le (Str.ofString "/") (normC (Txt.split z (Str.ofString "/")))
  have h2 := normC_weight z
  have e : (Str.ofString "/").length = 1 := by decide +kernel
  rw [e] at h1
  omega
theorem loop_end {σ : Type} {Led : σ → List (Addr × Obj)} {I : Nat → σ → Prop} {i : Nat} {c' : σ} {own : List (Addr × Obj)} {x : Str} {u : Option Value} {m₀ : Str → Option Value} {s₁ : Shared} {h₀ h' : Heap} {L : Addr} {tk : Nat} {adr : List Addr} (F : Fr h₀ L h' (fun y => if y = x then u else m₀ y)) (N : News h₀ L h' (Led c' ++ own)) (hoff : OwnOff own adr) (ha : (Led c').map (·.1) = adr)
    (hI : I (i + 1) c') : InvEndG h₀ L (fun m' nx => ∃ c', nx = Led c' ∧ I (i + 1) c' ∧ ∃ u, m' = fun y => if y = x then u else m₀ y) own s₁ { s₁ with heap := h', toks := tk } :=
  InvEndG.intro F N ⟨c', rfl, hI, u, rfl⟩ (by rw [ha]; exact hoff) (fun _ h => List.mem_append.mpr (.inl h)) (fun _ h => List.mem_append.mpr (.inr h))
theorem nil_or_snoc {α : Type} (l : List α) : l = [] ∨ ∃ p v, l = p ++ [v] := by
  rcases List.eq_nil_or_concat l with h | ⟨p, v, h⟩
  · exact .inl h
  · exact .inr ⟨p, v, by rw [h, List.concat_eq_append]⟩
theorem normpath_spec {x z : Str} {t : Tok} (hx : x.length ≤ 1000) (hx0 : 0 < x.length) (hr : rootP x = (Str.ofString "/", z)) (hz : z.length ≤ 1000)
   (B : Below A₀ base outer h₀) (F : Fr h₀ L s.heap m) (X : (hd.heap_39 w.params).In h₀) (N : News h₀ L s.heap news) (T : Top hd.view_39 (looseW hd.view_39 []) mean mg mb h₀) (hk : cs.kind = .function)
   (hdp : dp + 3 < recursionLimit) (hun : un + 24 < cLine)
   (ret : ∀ t' h' tk', Fr h₀ L h' m → News h₀ L h' news → Q (.str (Str.ofString "/" ++ Str.join (Str.ofString "/") (normC (Txt.split z (Str.ofString "/")))) t') { s with heap := h', toks := tk' }) :
   wpAny (model Challenge.rw_pd0171_01.row.prog w) (ktrTop dp un gd cn cs L a ccd cl outer) (call (.ref 215) [.str x t]) Q E s := by
  revert X
  k_fill
  intro X
  have NH : HidN h₀ L s.heap [] := HidN.none
  have NR : RestN h₀ L s.heap [] news := RestN.all N
  refine wpAny_call ?_
  k_dflt cell_enter
  k_steps
  · refine loop_list (fun c : List Value × Nat => [(_, listOf c.1.toArray c.2), (_, _), (_, _)])
      (NormI (Txt.split z (Str.ofString "/"))) ([], 0) (by rfl) (fun c => List.Mem.tail _ (List.Mem.head _)) (by assumption) (by assumption) ⟨.nil, (by intro y hy; simp [normC] at hy), Nat.le_refl 0⟩ ?turn ?done
    case turn =>
      rintro i v ⟨vs, nn⟩ h tk own hv hI hoff F1 N1
      obtain ⟨y, u, rfl, hy⟩ := strValues_get hv
      rename (List.map _ _ = Txt.split _ _) => hsp
      rw [hsp] at hy
      dsimp only [List.cons_append, List.nil_append, List.map_cons, List.map_nil] at N1 hoff
      have hyl : y.length ≤ 1000 := by
        exact Nat.le_trans (part_short (List.mem_of_getElem? hy)) hz
      have hil : i < 8000 := by
        have h1 := split_weight z
        have h2 := (List.getElem?_eq_some_iff.mp hy).1
        omega
      have hvl : vs.length ≤ i := hI.2.2
      rcases nil_or_snoc vs with rfl | ⟨p, v, rfl⟩
      · try k_fold
        k_steps
        all_goals first
          | exact loop_end (c' := ([], nn)) (by assumption) (by assumption) hoff rfl (hI.same hy (normStep_empty (by assumption)))
          | exact loop_end (c' := ([], nn)) (by assumption) (by assumption) hoff rfl (hI.same hy (normStep_dot (by assumption) (by assumption)))
          | exact loop_end (c' := ([], nn)) (by assumption) (by assumption) hoff rfl (hI.upNil hy (by assumption) (by assumption) (by assumption))
          | exact loop_end (c' := ([Value.str y u], nn + 1)) (by assumption) (by assumption) hoff rfl (hI.on hy (by assumption) (by assumption) (by assumption))
      · obtain ⟨_, yl, ul, rfl, _⟩ := strs_snoc hI.1
        have hll := hI.last
        have hpl : p.length ≤ 9000 := by simp at hvl; omega
        try k_fold
        k_steps
        all_goals first
          | exact loop_end (c' := (p ++ [Value.str yl ul], nn)) (by assumption) (by assumption) hoff rfl (hI.same hy (normStep_empty (by assumption)))
          | exact loop_end (c' := (p ++ [Value.str yl ul], nn)) (by assumption) (by assumption) hoff rfl (hI.same hy (normStep_dot (by assumption) (by assumption)))
          | exact loop_end (c' := (p, nn + 1)) (by assumption) (by assumption) hoff rfl (hI.up hy (by assumption) (by assumption) (by assumption))
          | exact loop_end (c' := (p ++ [Value.str yl ul] ++ [Value.str y u], nn + 1)) (by assumption) (by assumption) hoff rfl (hI.on hy (by assumption) (by assumption) (by assumption))
    case done =>
      rintro ⟨vs, nn⟩ u h tk hI F1 N1
      have hj : StrsAre vs (normC (Txt.split z (Str.ofString "/"))) := by
        have h1 := hI.1
        rename (List.map _ _ = Txt.split _ _) => hsp
        rw [List.take_of_length_le (by rw [← hsp]; simp [strValues])] at h1
        exact h1
      have hs : ((normC (Txt.split z (Str.ofString "/"))).map (·.length)).sum + (normC (Txt.split z (Str.ofString "/"))).length * (Str.ofString "/").length ≤ 1000000 := by
        have h2 := normC_weight z
        have e : (Str.ofString "/").length = 1 := by decide +kernel
        rw [e]
        omega
      have hjl := join_norm_len z
      have hsl : (Str.ofString "/").length = 1 := by decide +kernel
      try dsimp only at N1
      try k_fold
      k_steps
      all_goals first
        | exact ret _ _ _ (by k_asm) (by assumption)
        | (exfalso; omega)
  · exfalso; omega
end
end
section
open PySem PySem.W PyProof.Rows PySem.Calls PySem.Spec
set_option maxRecDepth 100000
set_option maxHeartbeats 0
theorem lines_C7_1 : True := by
  k_with_none
  k_with "eval Constant int" => (refine flat_int ?_)
  k_with "eval Constant str" => (refine flat_str ?_)
  k_with "call builtin:issubclass" => (k_here; k_dflt (refine' issub_call ?kqk1 ?_; (case kqk1 => exact News.get (by k_asm) (by k_mem)); k_whole); intro tk)
  k_with "callWith" => (k_here; (with_reducible show wpAny _ _ (callWith _ (Value.builtin _) (_ :: _) _ _) _ _ _); refine callWith_method1 ?_)
  k_with "call builtin:str.split" => (k_here; (with_reducible show wpAny _ _ (call (Value.builtin "str.split") _) _ _ _); k_dflt (refine KSpl.split1 (by k_asm) (by k_asm) (by decide) ?_ (by kspl_size)); kspl_end)
  k_with "binaryOp Add ref ref" => (k_here; k_dflt (refine' l_cat ?kqF ?kqN ?kqa ?kqb ?kqz ?_; (case kqF => k_asm); (case kqN => k_asm); (case kqa => k_mem); (case kqb => k_mem); (case kqz => (simp only [List.length_append, List.length_cons, List.length_nil, List.length_dropLast] at *; omega)); k_whole); intro D' h' F' N' l1; (try k_lt l1); (try k_sweep))
  k_with "subscriptTail Name Slice ref ref" => (k_here; k_dflt (refine' l_slice ?kqF ?kqN ?kqa ?kqp ?kqq ?kqe ?kqz ?_ ?kqs ?kqt; (case kqF => k_asm); (case kqN => k_asm); (case kqa => k_mem); (case kqp => constructor); (case kqq => constructor); (case kqe => exact pick_dropLast _); (case kqz => (simp only [List.length_append, List.length_cons, List.length_nil, List.length_dropLast] at *; omega)); (case kqs => with_unfolding_all rfl); (case kqt => (intro _; with_unfolding_all rfl)); k_whole); intro D' h' F' N' l1; (try k_lt l1); (try k_sweep))
  trivial
section
variable {w : World} {mean : ExcName → Option Value} {mg mb : Str → Option Value} {dp un : Nat} {gd : Option (List Code)} {cn : Str} {cs : Scope} {a : Addr} {ccd : Value} {cl : List (Str × Addr)} {outer : List Env} {A₀ : Around} {base h₀ : Heap} {L : Addr} {m : Str → Option Value} {news : List (Addr × Obj)} {s : Shared} {Q E : Value → Shared → Prop}
theorem rejoin {h₀ h h' : Heap} {L ln : Addr} {o : Obj} {news : List (Addr × Obj)} (N : News h₀ L h news) (hm : (ln, o) ∈ news) (N1 : News h₀ L h' [(ln, o)]) (N2 : News h₀ L h' (news.filter (fun q => decide (q.1 ≠ ln)))) : News h₀ L h' news := by
  intro p hp
  by_cases e : p.1 = ln
  · have h1 := (N p hp).1
    rw [e, (N _ hm).1] at h1
    have h2 : p = (ln, o) := Prod.ext e (Option.some.inj h1).symm
    rw [h2]
    exact N1 _ (.head _)
  · exact N2 p (List.mem_filter.mpr ⟨hp, by simpa using e⟩)
theorem restOf {h₀ h : Heap} {L ln : Addr} {o : Obj} {news : List (Addr × Obj)} (N : News h₀ L h news) : RestN h₀ L h [(ln, o)] (news.filter (fun q => decide (q.1 ≠ ln))) :=
  ⟨fun p hp => N p (List.mem_filter.mp hp).1, fun p hp h => by have := (List.mem_filter.mp hp).2; simp at this; exact this (List.mem_singleton.mp h)⟩
theorem fresh_of {h₀ h g h' : Heap} {L L' ln r : Addr} {o o' : Obj} {news led : List (Addr × Obj)} (R : Rests h g [(ln, o)]) (N : News h₀ L h news) (_hm : (ln, o) ∈ news) (NG : News g L' h' led) (hr : (r, o') ∈ led) (hne : ln ≠ r) : ∀ p ∈ news, p.1 ≠ r := by
  intro p hp e
  by_cases e2 : p.1 = ln
  · exact hne (e2.symm.trans e)
  · have h1 := R _ _ (N p hp).1 (by simpa using e2)
    rw [e, (NG _ hr).2.2] at h1
    cases h1
theorem news_ground {h g h' : Heap} {L' : Addr} {hid led : List (Addr × Obj)} (_R : Rests h g hid) (N : News g L' h' led) : News g L' h' led := N
theorem ltN2 {a b : Nat} (h : a ≠ b) : (a : Addr) ≠ b := h
theorem go_a {ln : Addr} {n : Nat} {vs : List Value} {t : Tok} (hlen : vs.length ≤ 1000)
   (B : Below A₀ base outer h₀) (F : Fr h₀ L s.heap m) (X : (hd.heap_39 w.params).In h₀) (N : News h₀ L s.heap news) (T : Top hd.view_39 (looseW hd.view_39 []) mean mg mb h₀) (hk : cs.kind = .function)
   (hdp : dp + 1 < recursionLimit) (hun : un + 16 < cLine) (hm : (ln, listOf vs.toArray n) ∈ news)
   (ret : ∀ r n' (t1 : Tok) h' tk', (∀ p ∈ news, p.1 ≠ r) → Fr h₀ L h' m → News h₀ L h' ((r, listOf (vs ++ [.str (Str.ofString "a") t1] : List Value).toArray n') :: news) → Q (.ref r) { s with heap := h', toks := tk' }) :
   wpAny (model Challenge.rw_pd0171_01.row.prog w) (ktrTop dp un gd cn cs L a ccd cl outer) (call (.ref 243) [.ref ln, .str (Str.ofString "a") t]) Q E s := by
  revert X
  k_fill
  intro X
  have NH : HidN h₀ L s.heap [(ln, listOf vs.toArray n)] := ⟨fun p hp => by rw [List.mem_singleton.mp hp]; exact N _ hm⟩
  have NR : RestN h₀ L s.heap [(ln, listOf vs.toArray n)] (news.filter (fun q => decide (q.1 ≠ ln))) := restOf N
  refine wpAny_call ?_
  k_dflt cell_enter
  k_steps
  (rename Rests _ _ _ => hRs); (have hG := news_ground hRs (by assumption)); (rename News h₀ L _ (List.filter _ _) => hF); (rename News h₀ L _ (_ :: _) => hL); (have hR := rejoin N hm (fun p hp => hL p (by rw [List.mem_singleton.mp hp]; k_mem)) hF); first | exact ret _ _ _ _ _ (fresh_of (by assumption) N hm hG (by k_mem) (ltN2 (by omega))) (by k_asm) (fun p hp => (List.mem_cons.mp hp).elim (fun e => by subst e; exact hL _ (by k_mem)) (hR p)) | exact ret _ _ 0 _ _ (fresh_of (by assumption) N hm hG (by k_mem) (ltN2 (by omega))) (by k_asm) (fun p hp => (List.mem_cons.mp hp).elim (fun e => by subst e; exact hL _ (by k_mem)) (hR p))
theorem go_up {ln : Addr} {n : Nat} {vs : List Value} {t : Tok} (hlen : vs.length ≤ 1000)
   (B : Below A₀ base outer h₀) (F : Fr h₀ L s.heap m) (X : (hd.heap_39 w.params).In h₀) (N : News h₀ L s.heap news) (T : Top hd.view_39 (looseW hd.view_39 []) mean mg mb h₀) (hk : cs.kind = .function)
   (hdp : dp + 1 < recursionLimit) (hun : un + 16 < cLine) (hm : (ln, listOf vs.toArray n) ∈ news)
   (ret : ∀ r n' (t1 : Tok) h' tk', (∀ p ∈ news, p.1 ≠ r) → Fr h₀ L h' m → News h₀ L h' ((r, listOf (vs.dropLast : List Value).toArray n') :: news) → Q (.ref r) { s with heap := h', toks := tk' }) :
   wpAny (model Challenge.rw_pd0171_01.row.prog w) (ktrTop dp un gd cn cs L a ccd cl outer) (call (.ref 243) [.ref ln, .str (Str.ofString "..") t]) Q E s := by
  revert X
  k_fill
  intro X
  have NH : HidN h₀ L s.heap [(ln, listOf vs.toArray n)] := ⟨fun p hp => by rw [List.mem_singleton.mp hp]; exact N _ hm⟩
  have NR : RestN h₀ L s.heap [(ln, listOf vs.toArray n)] (news.filter (fun q => decide (q.1 ≠ ln))) := restOf N
  refine wpAny_call ?_
  k_dflt cell_enter
  k_steps
  (rename Rests _ _ _ => hRs); (have hG := news_ground hRs (by assumption)); (rename News h₀ L _ (List.filter _ _) => hF); (rename News h₀ L _ (_ :: _) => hL); (have hR := rejoin N hm (fun p hp => hL p (by rw [List.mem_singleton.mp hp]; k_mem)) hF); first | exact ret _ _ _ _ _ (fresh_of (by assumption) N hm hG (by k_mem) (ltN2 (by omega))) (by k_asm) (fun p hp => (List.mem_cons.mp hp).elim (fun e => by subst e; exact hL _ (by k_mem)) (hR p)) | exact ret _ _ 0 _ _ (fresh_of (by assumption) N hm hG (by k_mem) (ltN2 (by omega))) (by k_asm) (fun p hp => (List.mem_cons.mp hp).elim (fun e => by subst e; exact hL _ (by k_mem)) (hR p))
theorem go_q {ln : Addr} {n : Nat} {vs : List Value} {t : Tok} (hlen : vs.length ≤ 1000)
   (B : Below A₀ base outer h₀) (F : Fr h₀ L s.heap m) (X : (hd.heap_39 w.params).In h₀) (N : News h₀ L s.heap news) (T : Top hd.view_39 (looseW hd.view_39 []) mean mg mb h₀) (hk : cs.kind = .function)
   (hdp : dp + 1 < recursionLimit) (hun : un + 16 < cLine) (hm : (ln, listOf vs.toArray n) ∈ news)
   (ret : ∀ r n' (t1 : Tok) h' tk', (∀ p ∈ news, p.1 ≠ r) → Fr h₀ L h' m → News h₀ L h' ((r, listOf (vs ++ [.str (Str.ofString "q\"") t1] : List Value).toArray n') :: news) → Q (.ref r) { s with heap := h', toks := tk' }) :
   wpAny (model Challenge.rw_pd0171_01.row.prog w) (ktrTop dp un gd cn cs L a ccd cl outer) (call (.ref 243) [.ref ln, .str (Str.ofString "q\"") t]) Q E s := by
  revert X
  k_fill
  intro X
  have NH : HidN h₀ L s.heap [(ln, listOf vs.toArray n)] := ⟨fun p hp => by rw [List.mem_singleton.mp hp]; exact N _ hm⟩
  have NR : RestN h₀ L s.heap [(ln, listOf vs.toArray n)] (news.filter (fun q => decide (q.1 ≠ ln))) := restOf N
  refine wpAny_call ?_
  k_dflt cell_enter
  k_steps
  (rename Rests _ _ _ => hRs); (have hG := news_ground hRs (by assumption)); (rename News h₀ L _ (List.filter _ _) => hF); (rename News h₀ L _ (_ :: _) => hL); (have hR := rejoin N hm (fun p hp => hL p (by rw [List.mem_singleton.mp hp]; k_mem)) hF); first | exact ret _ _ _ _ _ (fresh_of (by assumption) N hm hG (by k_mem) (ltN2 (by omega))) (by k_asm) (fun p hp => (List.mem_cons.mp hp).elim (fun e => by subst e; exact hL _ (by k_mem)) (hR p)) | exact ret _ _ 0 _ _ (fresh_of (by assumption) N hm hG (by k_mem) (ltN2 (by omega))) (by k_asm) (fun p hp => (List.mem_cons.mp hp).elim (fun e => by subst e; exact hL _ (by k_mem)) (hR p))
theorem go_root {ln : Addr} {n : Nat} {vs : List Value} {t : Tok} (hlen : vs.length ≤ 1000)
   (B : Below A₀ base outer h₀) (F : Fr h₀ L s.heap m) (X : (hd.heap_39 w.params).In h₀) (N : News h₀ L s.heap news) (T : Top hd.view_39 (looseW hd.view_39 []) mean mg mb h₀) (hk : cs.kind = .function)
   (hdp : dp + 1 < recursionLimit) (hun : un + 16 < cLine) (hm : (ln, listOf vs.toArray n) ∈ news)
   (ret : ∀ r n' (t1 : Tok) h' tk', (∀ p ∈ news, p.1 ≠ r) → Fr h₀ L h' m → News h₀ L h' ((r, listOf ([] : List Value).toArray n') :: news) → Q (.ref r) { s with heap := h', toks := tk' }) :
   wpAny (model Challenge.rw_pd0171_01.row.prog w) (ktrTop dp un gd cn cs L a ccd cl outer) (call (.ref 243) [.ref ln, .str (Str.ofString "/") t]) Q E s := by
  revert X
  k_fill
  intro X
  have NH : HidN h₀ L s.heap [(ln, listOf vs.toArray n)] := ⟨fun p hp => by rw [List.mem_singleton.mp hp]; exact N _ hm⟩
  have NR : RestN h₀ L s.heap [(ln, listOf vs.toArray n)] (news.filter (fun q => decide (q.1 ≠ ln))) := restOf N
  refine wpAny_call ?_
  k_dflt cell_enter
  k_steps
  (rename Rests _ _ _ => hRs); (have hG := news_ground hRs (by assumption)); (rename News h₀ L _ (List.filter _ _) => hF); (rename News h₀ L _ (_ :: _) => hL); (have hR := rejoin N hm (fun p hp => hL p (by rw [List.mem_singleton.mp hp]; k_mem)) hF); first | exact ret _ _ _ _ _ (fresh_of (by assumption) N hm hG (by k_mem) (ltN2 (by omega))) (by k_asm) (fun p hp => (List.mem_cons.mp hp).elim (fun e => by subst e; exact hL _ (by k_mem)) (hR p)) | exact ret _ _ 0 _ _ (fresh_of (by assumption) N hm hG (by k_mem) (ltN2 (by omega))) (by k_asm) (fun p hp => (List.mem_cons.mp hp).elim (fun e => by subst e; exact hL _ (by k_mem)) (hR p))
theorem go_b {ln : Addr} {n : Nat} {vs : List Value} {t : Tok} (hlen : vs.length ≤ 1000)
   (B : Below A₀ base outer h₀) (F : Fr h₀ L s.heap m) (X : (hd.heap_39 w.params).In h₀) (N : News h₀ L s.heap news) (T : Top hd.view_39 (looseW hd.view_39 []) mean mg mb h₀) (hk : cs.kind = .function)
   (hdp : dp + 1 < recursionLimit) (hun : un + 16 < cLine) (hm : (ln, listOf vs.toArray n) ∈ news)
   (ret : ∀ r n' (t1 : Tok) h' tk', (∀ p ∈ news, p.1 ≠ r) → Fr h₀ L h' m → News h₀ L h' ((r, listOf (vs ++ [.str (Str.ofString "b") t1] : List Value).toArray n') :: news) → Q (.ref r) { s with heap := h', toks := tk' }) :
   wpAny (model Challenge.rw_pd0171_01.row.prog w) (ktrTop dp un gd cn cs L a ccd cl outer) (call (.ref 243) [.ref ln, .str (Str.ofString ".//b") t]) Q E s := by
  revert X
  k_fill
  intro X
  have NH : HidN h₀ L s.heap [(ln, listOf vs.toArray n)] := ⟨fun p hp => by rw [List.mem_singleton.mp hp]; exact N _ hm⟩
  have NR : RestN h₀ L s.heap [(ln, listOf vs.toArray n)] (news.filter (fun q => decide (q.1 ≠ ln))) := restOf N
  refine wpAny_call ?_
  k_dflt cell_enter
  k_steps
  (rename Rests _ _ _ => hRs); (have hG := news_ground hRs (by assumption)); (rename News h₀ L _ (List.filter _ _) => hF); (rename News h₀ L _ (_ :: _) => hL); (have hR := rejoin N hm (fun p hp => hL p (by rw [List.mem_singleton.mp hp]; k_mem)) hF); first | exact ret _ _ _ _ _ (fresh_of (by assumption) N hm hG (by k_mem) (ltN2 (by omega))) (by k_asm) (fun p hp => (List.mem_cons.mp hp).elim (fun e => by subst e; exact hL _ (by k_mem)) (hR p)) | exact ret _ _ 0 _ _ (fresh_of (by assumption) N hm hG (by k_mem) (ltN2 (by omega))) (by k_asm) (fun p hp => (List.mem_cons.mp hp).elim (fun e => by subst e; exact hL _ (by k_mem)) (hR p))
theorem go_n {ln : Addr} {n : Nat} {vs : List Value} {t : Tok} (hlen : vs.length ≤ 1000)
   (B : Below A₀ base outer h₀) (F : Fr h₀ L s.heap m) (X : (hd.heap_39 w.params).In h₀) (N : News h₀ L s.heap news) (T : Top hd.view_39 (looseW hd.view_39 []) mean mg mb h₀) (hk : cs.kind = .function)
   (hdp : dp + 1 < recursionLimit) (hun : un + 16 < cLine) (hm : (ln, listOf vs.toArray n) ∈ news)
   (ret : ∀ r n' (t1 : Tok) h' tk', (∀ p ∈ news, p.1 ≠ r) → Fr h₀ L h' m → News h₀ L h' ((r, listOf (vs.dropLast ++ [.str (Str.ofString "n (|||7|)") t1] : List Value).toArray n') :: news) → Q (.ref r) { s with heap := h', toks := tk' }) :
   wpAny (model Challenge.rw_pd0171_01.row.prog w) (ktrTop dp un gd cn cs L a ccd cl outer) (call (.ref 243) [.ref ln, .str (Str.ofString "../n (|||7|)") t]) Q E s := by
  revert X
  k_fill
  intro X
  have NH : HidN h₀ L s.heap [(ln, listOf vs.toArray n)] := ⟨fun p hp => by rw [List.mem_singleton.mp hp]; exact N _ hm⟩
  have NR : RestN h₀ L s.heap [(ln, listOf vs.toArray n)] (news.filter (fun q => decide (q.1 ≠ ln))) := restOf N
  refine wpAny_call ?_
  k_dflt cell_enter
  k_steps
  (rename Rests _ _ _ => hRs); (have hG := news_ground hRs (by assumption)); (rename News h₀ L _ (List.filter _ _) => hF); (rename News h₀ L _ (_ :: _) => hL); (have hR := rejoin N hm (fun p hp => hL p (by rw [List.mem_singleton.mp hp]; k_mem)) hF); first | exact ret _ _ _ _ _ (fresh_of (by assumption) N hm hG (by k_mem) (ltN2 (by omega))) (by k_asm) (fun p hp => (List.mem_cons.mp hp).elim (fun e => by subst e; exact hL _ (by k_mem)) (hR p)) | exact ret _ _ 0 _ _ (fresh_of (by assumption) N hm hG (by k_mem) (ltN2 (by omega))) (by k_asm) (fun p hp => (List.mem_cons.mp hp).elim (fun e => by subst e; exact hL _ (by k_mem)) (hR p))
theorem go_x {ln : Addr} {n : Nat} {vs : List Value} {t : Tok} (hlen : vs.length ≤ 1000)
   (B : Below A₀ base outer h₀) (F : Fr h₀ L s.heap m) (X : (hd.heap_39 w.params).In h₀) (N : News h₀ L s.heap news) (T : Top hd.view_39 (looseW hd.view_39 []) mean mg mb h₀) (hk : cs.kind = .function)
   (hdp : dp + 1 < recursionLimit) (hun : un + 16 < cLine) (hm : (ln, listOf vs.toArray n) ∈ news)
   (ret : ∀ r n' (t1 : Tok) h' tk', (∀ p ∈ news, p.1 ≠ r) → Fr h₀ L h' m → News h₀ L h' ((r, listOf ([.str (Str.ofString "x") t1] : List Value).toArray n') :: news) → Q (.ref r) { s with heap := h', toks := tk' }) :
   wpAny (model Challenge.rw_pd0171_01.row.prog w) (ktrTop dp un gd cn cs L a ccd cl outer) (call (.ref 243) [.ref ln, .str (Str.ofString "/x") t]) Q E s := by
  revert X
  k_fill
  intro X
  have NH : HidN h₀ L s.heap [(ln, listOf vs.toArray n)] := ⟨fun p hp => by rw [List.mem_singleton.mp hp]; exact N _ hm⟩
  have NR : RestN h₀ L s.heap [(ln, listOf vs.toArray n)] (news.filter (fun q => decide (q.1 ≠ ln))) := restOf N
  refine wpAny_call ?_
  k_dflt cell_enter
  k_steps
  (rename Rests _ _ _ => hRs); (have hG := news_ground hRs (by assumption)); (rename News h₀ L _ (List.filter _ _) => hF); (rename News h₀ L _ (_ :: _) => hL); (have hR := rejoin N hm (fun p hp => hL p (by rw [List.mem_singleton.mp hp]; k_mem)) hF); first | exact ret _ _ _ _ _ (fresh_of (by assumption) N hm hG (by k_mem) (ltN2 (by omega))) (by k_asm) (fun p hp => (List.mem_cons.mp hp).elim (fun e => by subst e; exact hL _ (by k_mem)) (hR p)) | exact ret _ _ 0 _ _ (fresh_of (by assumption) N hm hG (by k_mem) (ltN2 (by omega))) (by k_asm) (fun p hp => (List.mem_cons.mp hp).elim (fun e => by subst e; exact hL _ (by k_mem)) (hR p))
end
end
section
open PySem PySem.W PyProof.Rows PySem.Calls PySem.Spec
set_option maxRecDepth 100000
set_option maxHeartbeats 0
theorem lines_C10_1 : True := by
  k_with_none
  k_with "eval Constant int" => (refine flat_int ?_)
  k_with "eval Constant str" => (refine flat_str ?_)
  k_with "call builtin:issubclass" => (k_here; k_dflt (refine' issub_call ?kqk1 ?_; (case kqk1 => exact News.get (by k_asm) (by k_mem)); k_whole); intro tk)
  trivial
section
variable {w : World} {mean : ExcName → Option Value} {mg mb : Str → Option Value} {dp un : Nat} {gd : Option (List Code)} {cn : Str} {cs : Scope} {a : Addr} {ccd : Value} {cl : List (Str × Addr)} {outer : List Env} {A₀ : Around} {base h₀ : Heap} {L : Addr} {m : Str → Option Value} {news : List (Addr × Obj)} {s : Shared} {Q E : Value → Shared → Prop}
theorem strs_dropLast {vs : List Value} {ts : List Str} (h : StrsAre vs ts) : StrsAre vs.dropLast ts.dropLast := by
  rw [List.dropLast_eq_take, List.dropLast_eq_take, StrsAre.length h]
  exact StrsAre.take' h _
theorem go_way {ln : Addr} {n i : Nat} {vs : List Value} {names : List Str} {wd : Str} {t : Tok} (hw : waysT[i]? = some wd) (hS : StrsAre vs names) (hlen : vs.length ≤ 1000)
   (B : Below A₀ base outer h₀) (F : Fr h₀ L s.heap m) (X : (hd.heap_39 w.params).In h₀) (N : News h₀ L s.heap news) (T : Top hd.view_39 (looseW hd.view_39 []) mean mg mb h₀) (hk : cs.kind = .function)
   (hdp : dp + 1 < recursionLimit) (hun : un + 16 < cLine) (hm : (ln, listOf vs.toArray n) ∈ news)
   (ret : ∀ r vs' n' h' tk', (∀ p ∈ news, p.1 ≠ r) → StrsAre vs' (waysGo i names) → Fr h₀ L h' m → News h₀ L h' ((r, listOf vs'.toArray n') :: news) → Q (.ref r) { s with heap := h', toks := tk' }) :
   wpAny (model Challenge.rw_pd0171_01.row.prog w) (ktrTop dp un gd cn cs L a ccd cl outer) (call (.ref 243) [.ref ln, .str wd t]) Q E s := by
  match i, hw, ret with
  | 0, hw, ret =>
    obtain rfl := Option.some.inj hw
    exact go_a hlen B F X N T hk hdp hun hm fun r n' t1 h' tk' fr F' N' => ret r _ n' h' tk' fr (StrsAre.append' hS (.cons _ _ .nil)) F' N'
  | 1, hw, ret =>
    obtain rfl := Option.some.inj hw
    exact go_up hlen B F X N T hk hdp hun hm fun r n' t1 h' tk' fr F' N' => ret r _ n' h' tk' fr (strs_dropLast hS) F' N'
  | 2, hw, ret =>
    obtain rfl := Option.some.inj hw
    exact go_q hlen B F X N T hk hdp hun hm fun r n' t1 h' tk' fr F' N' => ret r _ n' h' tk' fr (StrsAre.append' hS (.cons _ _ .nil)) F' N'
  | 3, hw, ret =>
    obtain rfl := Option.some.inj hw
    exact go_root hlen B F X N T hk hdp hun hm fun r n' t1 h' tk' fr F' N' => ret r _ n' h' tk' fr .nil F' N'
  | 4, hw, ret =>
    obtain rfl := Option.some.inj hw
    exact go_b hlen B F X N T hk hdp hun hm fun r n' t1 h' tk' fr F' N' => ret r _ n' h' tk' fr (StrsAre.append' hS (.cons _ _ .nil)) F' N'
  | i + 5, hw, _ => simp [waysT] at hw
theorem go_file {ln : Addr} {n i : Nat} {vs : List Value} {names : List Str} {wd : Str} {t : Tok} (hw : filesT[i]? = some wd) (hS : StrsAre vs names) (hlen : vs.length ≤ 1000)
   (B : Below A₀ base outer h₀) (F : Fr h₀ L s.heap m) (X : (hd.heap_39 w.params).In h₀) (N : News h₀ L s.heap news) (T : Top hd.view_39 (looseW hd.view_39 []) mean mg mb h₀) (hk : cs.kind = .function)
   (hdp : dp + 1 < recursionLimit) (hun : un + 16 < cLine) (hm : (ln, listOf vs.toArray n) ∈ news)
   (ret : ∀ r vs' n' h' tk', (∀ p ∈ news, p.1 ≠ r) → StrsAre vs' (filesGo i names) → Fr h₀ L h' m → News h₀ L h' ((r, listOf vs'.toArray n') :: news) → Q (.ref r) { s with heap := h', toks := tk' }) :
   wpAny (model Challenge.rw_pd0171_01.row.prog w) (ktrTop dp un gd cn cs L a ccd cl outer) (call (.ref 243) [.ref ln, .str wd t]) Q E s := by
  match i, hw, ret with
  | 0, hw, ret =>
    obtain rfl := Option.some.inj hw
    exact go_a hlen B F X N T hk hdp hun hm fun r n' t1 h' tk' fr F' N' => ret r _ n' h' tk' fr (StrsAre.append' hS (.cons _ _ .nil)) F' N'
  | 1, hw, ret =>
    obtain rfl := Option.some.inj hw
    exact go_q hlen B F X N T hk hdp hun hm fun r n' t1 h' tk' fr F' N' => ret r _ n' h' tk' fr (StrsAre.append' hS (.cons _ _ .nil)) F' N'
  | 2, hw, ret =>
    obtain rfl := Option.some.inj hw
    exact go_n hlen B F X N T hk hdp hun hm fun r n' t1 h' tk' fr F' N' => ret r _ n' h' tk' fr (StrsAre.append' (strs_dropLast hS) (.cons _ _ .nil)) F' N'
  | 3, hw, ret =>
    obtain rfl := Option.some.inj hw
    exact go_b hlen B F X N T hk hdp hun hm fun r n' t1 h' tk' fr F' N' => ret r _ n' h' tk' fr (StrsAre.append' hS (.cons _ _ .nil)) F' N'
  | 4, hw, ret =>
    obtain rfl := Option.some.inj hw
    exact go_x hlen B F X N T hk hdp hun hm fun r n' t1 h' tk' fr F' N' => ret r _ n' h' tk' fr (.cons _ _ .nil) F' N'
  | i + 5, hw, _ => simp [filesT] at hw
end
end
section
open PySem PySem.W PyProof.Rows PySem.Calls PySem.Spec
set_option maxRecDepth 100000
set_option maxHeartbeats 0
theorem lines_C11_1 : True := by
  k_with_none
  k_with "eval Constant int" => (refine flat_int ?_)
  k_with "eval Constant str" => (refine flat_str ?_)
  k_with "call builtin:issubclass" => (k_here; k_dflt (refine' issub_call ?kqk1 ?_; (case kqk1 => exact News.get (by k_asm) (by k_mem)); k_whole); intro tk)
  trivial
section
variable {w : World} {mean : ExcName → Option Value} {mg mb : Str → Option Value} {dp un : Nat} {gd : Option (List Code)} {cn : Str} {cs : Scope} {a : Addr} {ccd : Value} {cl : List (Str × Addr)} {outer : List Env} {A₀ : Around} {base h₀ : Heap} {L : Addr} {m : Str → Option Value} {news : List (Addr × Obj)} {s : Shared} {Q E : Value → Shared → Prop}
theorem rejoinL {h₀ h h' : Heap} {L : Addr} {led news : List (Addr × Obj)} (N : News h₀ L h news) (hs : ∀ q ∈ led, q ∈ news) (N1 : News h₀ L h' led) (N2 : News h₀ L h' (news.filter (fun q => !(led.map (·.1)).contains q.1))) : News h₀ L h' news := by
  intro p hp
  by_cases e : p.1 ∈ led.map (·.1)
  · obtain ⟨q, hq, eq⟩ := List.mem_map.mp e
    have h1 := (N p hp).1
    rw [← eq, (N q (hs q hq)).1] at h1
    have h2 : p = q := Prod.ext eq.symm (Option.some.inj h1).symm
    rw [h2]
    exact N1 q hq
  · exact N2 p (List.mem_filter.mpr ⟨hp, by simpa using e⟩)
theorem restOfL {h₀ h : Heap} {L : Addr} {led news : List (Addr × Obj)} (N : News h₀ L h news) : RestN h₀ L h led (news.filter (fun q => !(led.map (·.1)).contains q.1)) :=
  ⟨fun p hp => N p (List.mem_filter.mp hp).1, fun p hp h => by
    have := (List.mem_filter.mp hp).2
    simp only [Bool.not_eq_true'] at this
    have h2 : (led.map (·.1)).contains p.1 = true := by simpa using h
    rw [this] at h2
    cases h2⟩
theorem hidOf {h₀ h : Heap} {L : Addr} {led news : List (Addr × Obj)} (N : News h₀ L h news) (hs : ∀ q ∈ led, q ∈ news) : HidN h₀ L h led := ⟨fun p hp => N p (hs p hp)⟩
/-- the held connections: tuples of the ledger -/
inductive HeldIn (tl : List (Addr × Obj)) : List Value → List (Int × Str) → Prop
  | nil : HeldIn tl [] []
  | cons {a : Addr} {p : Int} {nm : Str} {t u : Tok} {vs : List Value} {hs : List (Int × Str)} : (a, ({ cls := .type "tuple", data := .seq #[.int p t, .str nm u] } : Obj)) ∈ tl → HeldIn tl vs hs → HeldIn tl (.ref a :: vs) ((p, nm) :: hs)
theorem HeldIn.mono {tl tl' : List (Addr × Obj)} (h : ∀ p ∈ tl, p ∈ tl') {vs : List Value} {hs : List (Int × Str)} (x : HeldIn tl vs hs) : HeldIn tl' vs hs := by
  induction x with
  | nil => exact .nil
  | cons hm _ ih => exact .cons (h _ hm) ih
theorem HeldIn.length {tl : List (Addr × Obj)} {vs : List Value} {hs : List (Int × Str)} (x : HeldIn tl vs hs) : vs.length = hs.length := by
  induction x with
  | nil => rfl
  | cons _ _ ih => simp [ih]
theorem HeldIn.append {tl : List (Addr × Obj)} {vs ws : List Value} {hs ks : List (Int × Str)} (x : HeldIn tl vs hs) (y : HeldIn tl ws ks) : HeldIn tl (vs ++ ws) (hs ++ ks) := by
  induction x with
  | nil => exact y
  | cons hm _ ih => exact .cons hm ih
theorem HeldIn.take {tl : List (Addr × Obj)} {vs : List Value} {hs : List (Int × Str)} (x : HeldIn tl vs hs) : ∀ k : Nat, HeldIn tl (vs.take k) (hs.take k) := by
  induction x with
  | nil => intro k; cases k <;> exact .nil
  | cons hm _ ih =>
    intro k
    cases k with
    | zero => exact .nil
    | succ k => exact .cons hm (ih k)
theorem HeldIn.drop {tl : List (Addr × Obj)} {vs : List Value} {hs : List (Int × Str)} (x : HeldIn tl vs hs) : ∀ k : Nat, HeldIn tl (vs.drop k) (hs.drop k) := by
  induction x with
  | nil => intro k; cases k <;> exact .nil
  | cons hm r ih =>
    intro k
    cases k with
    | zero => exact .cons hm r
    | succ k => exact ih k
theorem least_spec {lh : Addr} {n : Nat} {vH : List Value} {held : List (Int × Str)} (hH : HeldIn news vH held) (hlen : held.length ≤ 3)
   (B : Below A₀ base outer h₀) (F : Fr h₀ L s.heap m) (X : (hd.heap_39 w.params).In h₀) (N : News h₀ L s.heap news) (T : Top hd.view_39 (looseW hd.view_39 []) mean mg mb h₀) (hk : cs.kind = .function)
   (hdp : dp + 2 < recursionLimit) (hun : un + 64 < cLine) (hm : (lh, listOf vH.toArray n) ∈ news)
   (ret : ∀ r t' h' tk', IsLeast (held.map (·.1)) r → Fr h₀ L h' m → News h₀ L h' news → Q (.int r t') { s with heap := h', toks := tk' }) :
   wpAny (model Challenge.rw_pd0171_01.row.prog w) (ktrTop dp un gd cn cs L a ccd cl outer) (call (.ref 248) [.ref lh]) Q E s := by
  rcases hH with _ | ⟨m0, _ | ⟨m1, _ | ⟨m2, _ | ⟨m3, _⟩⟩⟩⟩
  · exact least0 B F X T hk hdp hun (hidOf N (List.forall_mem_cons.mpr ⟨hm, List.forall_mem_nil _⟩)) (restOfL N) fun r t' h' tk' hL F' N1 N2 => ret r t' h' tk' hL F' (rejoinL N (List.forall_mem_cons.mpr ⟨hm, List.forall_mem_nil _⟩) N1 N2)
  · exact least1 B F X T hk hdp hun (hidOf N (List.forall_mem_cons.mpr ⟨hm, List.forall_mem_cons.mpr ⟨m0, List.forall_mem_nil _⟩⟩)) (restOfL N) fun r t' h' tk' hL F' N1 N2 => ret r t' h' tk' hL F' (rejoinL N (List.forall_mem_cons.mpr ⟨hm, List.forall_mem_cons.mpr ⟨m0, List.forall_mem_nil _⟩⟩) N1 N2)
  · exact least2 B F X T hk hdp hun (hidOf N (List.forall_mem_cons.mpr ⟨hm, List.forall_mem_cons.mpr ⟨m0, List.forall_mem_cons.mpr ⟨m1, List.forall_mem_nil _⟩⟩⟩)) (restOfL N) fun r t' h' tk' hL F' N1 N2 => ret r t' h' tk' hL F' (rejoinL N (List.forall_mem_cons.mpr ⟨hm, List.forall_mem_cons.mpr ⟨m0, List.forall_mem_cons.mpr ⟨m1, List.forall_mem_nil _⟩⟩⟩) N1 N2)
  · exact least3 B F X T hk hdp hun (hidOf N (List.forall_mem_cons.mpr ⟨hm, List.forall_mem_cons.mpr ⟨m0, List.forall_mem_cons.mpr ⟨m1, List.forall_mem_cons.mpr ⟨m2, List.forall_mem_nil _⟩⟩⟩⟩)) (restOfL N) fun r t' h' tk' hL F' N1 N2 => ret r t' h' tk' hL F' (rejoinL N (List.forall_mem_cons.mpr ⟨hm, List.forall_mem_cons.mpr ⟨m0, List.forall_mem_cons.mpr ⟨m1, List.forall_mem_cons.mpr ⟨m2, List.forall_mem_nil _⟩⟩⟩⟩) N1 N2)
  · simp at hlen
end
end
section
open PySem PySem.W PyProof.Rows PySem.Calls PySem.Spec PyProof.V
set_option maxRecDepth 100000
set_option maxHeartbeats 400000
section
variable {prog : Program} {w : World} {A : Around} {E : Value → Shared → Prop} {s : Shared} {a b c : Int} {t u : Tok} {Q : Value → Shared → Prop} {value slice : PySem.Expr} {h₀ : Heap} {L D : Addr} {news : List (Addr × Obj)} {vs : List Value} {n : Nat} {v : Value} {k : Int}
theorem s_mod (hf : a.fmod b = c) (hb : b ≠ 0) (h : ∀ t' k, Q (.int c t') { s with toks := k }) : wpAny (model prog w) A (binaryOp .Mod (.int a t) (.int b u)) Q E s :=
  mod_int' hb (by rw [hf]; exact h _ _)
theorem s_div (hf : a.fdiv b = c) (hb : b ≠ 0) (hb2 : b.natAbs < 1000000) (h : ∀ t' k, Q (.int c t') { s with toks := k }) : wpAny (model prog w) A (binaryOp .FloorDiv (.int a t) (.int b u)) Q E s :=
  floordiv_int hb (by rw [hf]; exact h _ _) (Or.inl (PyProof.noPylong_small (by omega)))
/-- an item by an equation of the context -/
structure ItemIs (vs : List Value) (k : Int) (v : Value) : Prop where
  h : vs[k.toNat]? = some v
  h0 : 0 ≤ k
  h1 : k < 100000
theorem l_itemAs (hi : ItemIs vs k v) (N : News h₀ L s.heap news) (hm : (D, listOf vs.toArray n) ∈ news) (h : Q v s)
    (hs : subscripted slice false (.ref D) (.int k u) = operate [.ref D, .int k u] (getItem (.ref D) (.int k u)) := by with_unfolding_all rfl) : wpAny (model prog w) A (subscriptTail value slice (.ref D) (.int k u)) Q E s :=
  l_item N hm hi.h0 hi.h hi.h1 h hs
end
theorem strs_item {vs : List Value} {ts : List Str} {i : Nat} {wd : Str} (h : StrsAre vs ts) (hw : ts[i]? = some wd) (hi : i < 1000) : ∃ t, ItemIs vs (i : Int) (.str wd t) := by
  obtain ⟨t, ht⟩ := StrsAre.get h i wd hw
  exact ⟨t, by simpa using ht, by omega, by omega⟩
end
section
open PySem PySem.W PyProof.Rows PySem.Calls PySem.Spec PyProof.V
set_option maxRecDepth 100000
set_option maxHeartbeats 400000
/-! plain facts of the machine -/
def wordsL : List Str := [Str.ofString "a", Str.ofString "q\"", Str.ofString "n (|||7|)", Str.ofString "b", Str.ofString "x"]
def okW (y : Str) : Bool := PyData.strOk y && decide (y.length ≤ 12) && decide (0 < y.length) && y.cps.toList.all (fun c => c != 47)
theorem words_ok : ∀ y ∈ wordsL, okW y = true := by decide +kernel
structure DOK (i : Nat) (d : DS) : Prop where
  nm : ∀ y ∈ d.names, y ∈ wordsL
  nl : d.names.length ≤ i
  hl : d.held.length ≤ 4
  ho : ∀ p ∈ d.held, PyData.strOk p.2 = true ∧ p.2.length ≤ 14 * (i + 2)
  lo : ∀ e ∈ d.log, kqdOk 8 e = true
  ll : d.log.length ≤ i
theorem ways_in {i j : Nat} {names : List Str} (h : ∀ y ∈ names, y ∈ wordsL) (hl : names.length ≤ i) : (∀ y ∈ waysGo j names, y ∈ wordsL) ∧ (waysGo j names).length ≤ i + 1 := by
  unfold waysGo
  split <;> simp only [List.length_append, List.length_cons, List.length_nil, List.length_dropLast] <;> refine ⟨fun y hy => ?_, by omega⟩
  · rcases List.mem_append.mp hy with hy | hy
    · exact h y hy
    · rw [List.mem_singleton.mp hy]; decide +kernel
  · exact h y (List.dropLast_subset _ hy)
  · rcases List.mem_append.mp hy with hy | hy
    · exact h y hy
    · rw [List.mem_singleton.mp hy]; decide +kernel
  · cases hy
  · rcases List.mem_append.mp hy with hy | hy
    · exact h y hy
    · rw [List.mem_singleton.mp hy]; decide +kernel
theorem files_in {i j : Nat} {names : List Str} (h : ∀ y ∈ names, y ∈ wordsL) (hl : names.length ≤ i) : (∀ y ∈ filesGo j names, y ∈ wordsL) ∧ (filesGo j names).length ≤ i + 1 := by
  unfold filesGo
  split <;> simp only [List.length_append, List.length_cons, List.length_nil, List.length_dropLast] <;> refine ⟨fun y hy => ?_, by omega⟩
  · rcases List.mem_append.mp hy with hy | hy
    · exact h y hy
    · rw [List.mem_singleton.mp hy]; decide +kernel
  · rcases List.mem_append.mp hy with hy | hy
    · exact h y hy
    · rw [List.mem_singleton.mp hy]; decide +kernel
  · rcases List.mem_append.mp hy with hy | hy
    · exact h y (List.dropLast_subset _ hy)
    · rw [List.mem_singleton.mp hy]; decide +kernel
  · rcases List.mem_append.mp hy with hy | hy
    · exact h y hy
    · rw [List.mem_singleton.mp hy]; decide +kernel
  · rw [List.mem_singleton.mp hy]; decide +kernel
theorem slash_len : (Str.ofString "/").length = 1 := by decide +kernel
theorem words_w {names : List Str} (h : ∀ y ∈ names, y ∈ wordsL) : (names.map (·.length)).sum ≤ 12 * names.length := by
  induction names with
  | nil => simp
  | cons a r ih =>
    have h1 := words_ok a (h a (.head _))
    have h2 := ih fun y hy => h y (.tail _ hy)
    simp only [okW, Bool.and_eq_true, decide_eq_true_eq] at h1
    simp only [List.map_cons, List.sum_cons, List.length_cons]
    omega
theorem PP_len {names : List Str} (h : ∀ y ∈ names, y ∈ wordsL) : (PP names).length ≤ 13 * names.length + 1 := by
  have h1 := StrLaws.join_length_le (Str.ofString "/") names
  have h2 := words_w h
  unfold PP
  rw [Str.length_append]
  rw [slash_len] at *
  omega
theorem join_w {names : List Str} {i : Nat} (h : ∀ y ∈ names, y ∈ wordsL) (hl : names.length ≤ i) (hi : i ≤ 1000) : (names.map (·.length)).sum + names.length * (Str.ofString "/").length ≤ 1000000 := by
  have h2 := words_w h
  rw [slash_len]
  omega
theorem strOk_append {a b : Str} (ha : PyData.strOk a = true) (hb : PyData.strOk b = true) : PyData.strOk (a ++ b) = true := by
  unfold PyData.strOk at *
  rw [← Array.all_toList] at *
  rw [Str.cps_append, Array.toList_append, List.all_append, ha, hb]
  rfl
theorem strOk_join {z : Str} (hz : PyData.strOk z = true) : ∀ {l : List Str}, (∀ y ∈ l, PyData.strOk y = true) → PyData.strOk (Str.join z l) = true
  | [], _ => by simp only [Str.join]; decide +kernel
  | [x], h => h x (.head _)
  | x :: y :: r, h => by
    have ih := strOk_join hz (l := y :: r) fun q hq => h q (.tail _ hq)
    simp only [Str.join]
    exact strOk_append (strOk_append (h x (.head _)) hz) ih
theorem PP_ok {names : List Str} (h : ∀ y ∈ names, y ∈ wordsL) : PyData.strOk (PP names) = true := by
  unfold PP
  refine strOk_append (by decide +kernel) (strOk_join (by decide +kernel) fun y hy => ?_)
  have h1 := words_ok y (h y hy)
  simp only [okW, Bool.and_eq_true] at h1
  exact h1.1.1.1
theorem eraseIdx_in {α : Type} {l : List α} {k : Nat} {p : α} (h : p ∈ l.eraseIdx k) : p ∈ l := List.mem_of_mem_eraseIdx h
theorem dok_held {i : Nat} {held : List (Int × Str)} (h : ∀ p ∈ held, PyData.strOk p.2 = true ∧ p.2.length ≤ 14 * (i + 2)) : ∀ p ∈ held, PyData.strOk p.2 = true ∧ p.2.length ≤ 14 * (i + 1 + 2) := fun p hp => ⟨(h p hp).1, Nat.le_trans (h p hp).2 (by omega)⟩
theorem dok_open {i j : Nat} {d : DS} {held : List (Int × Str)} (h : DOK i d) (hh : held.length ≤ 3) (hs : ∀ p ∈ held, p ∈ d.held) : DOK (i + 1) (openOne d held j) := by
  obtain ⟨f1, f2⟩ := files_in (j := j) h.nm h.nl
  have hp := PP_len f1
  refine ⟨h.nm, Nat.le_succ_of_le h.nl, ?_, fun p hp => ?_, fun e he => ?_, ?_⟩
  · show (held ++ [_]).length ≤ 4
    rw [List.length_append]; simp; omega
  · rcases List.mem_append.mp hp with hp | hp
    · exact dok_held h.ho p (hs p hp)
    · rw [List.mem_singleton.mp hp]
      exact ⟨PP_ok f1, by show (PP _).length ≤ _; omega⟩
  · rcases List.mem_append.mp he with he | he
    · exact h.lo e he
    · rw [List.mem_singleton.mp he]
      simp only [kqdOk, List.all_cons, List.all_nil, Bool.and_true, PP_ok f1]
      decide +kernel
  · show (d.log ++ [_]).length ≤ i + 1
    rw [List.length_append]; simp; exact h.ll
theorem dok_log {i : Nat} {d : DS} {e : Dat} (h : DOK i d) (he : kqdOk 8 e = true) : (∀ q ∈ d.log ++ [e], kqdOk 8 q = true) ∧ (d.log ++ [e]).length ≤ i + 1 := by
  refine ⟨fun q hq => ?_, by rw [List.length_append]; simp; exact h.ll⟩
  rcases List.mem_append.mp hq with hq | hq
  · exact h.lo q hq
  · rw [List.mem_singleton.mp hq]; exact he
theorem kqd_word {x : Str} (h : PyData.strOk x = true) : kqdOk 8 (.str x) = true := by simpa [kqdOk] using h
theorem dok_step {i : Nat} {d : DS} {x : Int} (h : DOK i d) (hx : 0 ≤ x) : DOK (i + 1) (step d x) := by
  unfold step
  split
  · obtain ⟨w1, w2⟩ := ways_in (j := (x / 6 % 5).toNat) h.nm h.nl
    obtain ⟨l1, l2⟩ := dok_log h (kqd_word (PP_ok w1))
    exact ⟨w1, w2, h.hl, dok_held h.ho, l1, l2⟩
  · split
    · split
      · exact ⟨h.nm, Nat.le_succ_of_le h.nl, h.hl, dok_held h.ho, h.lo, Nat.le_succ_of_le h.ll⟩
      · rename_i hne
        have hpos : 0 < d.held.length := List.length_pos_iff.mpr hne
        have hk : (x / 6 % d.held.length).toNat < d.held.length := by
          have h1 := Int.emod_nonneg (x / 6) (b := (d.held.length : Int)) (by omega)
          have h2 := Int.emod_lt_of_pos (x / 6) (b := (d.held.length : Int)) (by omega)
          omega
        have hlen : (d.held.eraseIdx (x / 6 % d.held.length).toNat).length ≤ 3 := by
          rw [List.length_eraseIdx_of_lt hk]
          have := h.hl
          omega
        split
        · exact dok_open h hlen fun p hp => eraseIdx_in hp
        · exact ⟨h.nm, Nat.le_succ_of_le h.nl, Nat.le_trans hlen (by decide), fun p hp => dok_held h.ho p (eraseIdx_in hp), h.lo, Nat.le_succ_of_le h.ll⟩
    · split
      · obtain ⟨l1, l2⟩ := dok_log h (kqd_word (x := Str.ofString "no more") (by decide +kernel))
        exact ⟨h.nm, Nat.le_succ_of_le h.nl, h.hl, dok_held h.ho, l1, l2⟩
      · split
        · obtain ⟨l1, l2⟩ := dok_log h (kqd_word (x := Str.ofString "no mark") (by decide +kernel))
          exact ⟨h.nm, Nat.le_succ_of_le h.nl, h.hl, dok_held h.ho, l1, l2⟩
        · have := h.hl
          exact dok_open h (by omega) fun p hp => hp
theorem dok_zero : DOK 0 d0 := { nm := fun y h => absurd h (List.not_mem_nil (a := y)), nl := Nat.le_refl _, hl := by decide, ho := fun p h => absurd h (List.not_mem_nil (a := p)), lo := fun e h => absurd h (List.not_mem_nil (a := e)), ll := Nat.le_refl _ }
theorem dok_fold {ns : List Int} (h : ∀ x ∈ ns, 0 ≤ x) : ∀ i, i ≤ ns.length → DOK i ((ns.take i).foldl step d0)
  | 0, _ => dok_zero
  | i + 1, hi => by
    have ih := dok_fold h i (by omega)
    have e : ns.take (i + 1) = ns.take i ++ [ns[i]'hi] := (List.take_append_getElem hi).symm
    rw [e, List.foldl_append]
    exact dok_step ih (h _ (List.getElem_mem _))
theorem fold_next {ns : List Int} {i : Nat} {x : Int} (h : ns[i]? = some x) : (ns.take (i + 1)).foldl step d0 = step ((ns.take i).foldl step d0) x := by
  obtain ⟨hi, e⟩ := List.getElem?_eq_some_iff.mp h
  rw [← List.take_append_getElem hi, List.foldl_append, e]
  rfl
/-! the turns -/
theorem step_way {d : DS} {x : Int} {j : Nat} (h : x % 6 = 3) (hj : x / 6 % 5 = (j : Int)) : step d x = ⟨waysGo j d.names, d.held, d.log ++ [.str (PP (waysGo j d.names))]⟩ := by
  unfold step; rw [if_pos h, hj]; rfl
theorem step_idle {d : DS} {x : Int} (h : x % 6 = 2 ∨ x % 6 = 4) (hd : d.held = []) : step d x = d := by
  unfold step; rw [if_neg (by omega), if_pos h, if_pos hd]
theorem step_close {d : DS} {x : Int} {k : Nat} (h : x % 6 = 2) (hd : d.held ≠ []) (hk : x / 6 % d.held.length = (k : Int)) : step d x = ⟨d.names, d.held.eraseIdx k, d.log⟩ := by
  unfold step; rw [if_neg (by omega), if_pos (.inl h), if_neg hd, if_neg (by omega), hk]; rfl
theorem step_swap {d : DS} {x : Int} {j k : Nat} (h : x % 6 = 4) (hd : d.held ≠ []) (hk : x / 6 % d.held.length = (k : Int)) (hj : x / 6 % 5 = (j : Int)) : step d x = openOne d (d.held.eraseIdx k) j := by
  unfold step; rw [if_neg (by omega), if_pos (.inr h), if_neg hd, if_pos h, hk, hj]; rfl
theorem step_full {d : DS} {x : Int} (h : x % 6 = 0 ∨ x % 6 = 1 ∨ x % 6 = 5) (hd : d.held.length = 4) : step d x = ⟨d.names, d.held, d.log ++ [.str (Str.ofString "no more")]⟩ := by
  unfold step; rw [if_neg (by omega), if_neg (by omega), if_pos hd]
theorem step_mark {d : DS} {x : Int} (h : x % 6 = 5) (hd : d.held.length ≠ 4) : step d x = ⟨d.names, d.held, d.log ++ [.str (Str.ofString "no mark")]⟩ := by
  unfold step; rw [if_neg (by omega), if_neg (by omega), if_neg hd, if_pos h]
theorem step_open {d : DS} {x : Int} {j : Nat} (h : x % 6 = 0 ∨ x % 6 = 1) (hd : d.held.length ≠ 4) (hj : x / 6 % 5 = (j : Int)) : step d x = openOne d d.held j := by
  unfold step; rw [if_neg (by omega), if_neg (by omega), if_neg hd, if_neg (by omega), hj]; rfl
theorem erase_cat {α : Type} (l : List α) (k : Nat) : l.eraseIdx k = l.take k ++ l.drop (k + 1) := List.eraseIdx_eq_take_drop_succ l k
end
section
open PySem PySem.W PyProof.Rows PySem.Calls PySem.Spec PyProof.V
set_option maxRecDepth 100000
set_option maxHeartbeats 400000
def AllNe (d : Nat) : List (Addr × Obj) → Prop
  | [] => True
  | p :: r => @Ne Nat p.1 d ∧ AllNe d r
theorem allNe_of {d : Addr} : ∀ {l : List (Addr × Obj)}, (∀ p ∈ l, p.1 ≠ d) → AllNe d l
  | [], _ => trivial
  | p :: _, h => ⟨h p (.head _), allNe_of fun q hq => h q (.tail _ hq)⟩
theorem AllNe.mem {d : Nat} (l : List (Addr × Obj)) (h : AllNe d l) : ∀ p ∈ l, p.1 ≠ d := by
  induction l with
  | nil => exact fun p hp => absurd hp List.not_mem_nil
  | cons q r ih => exact fun p hp => (List.mem_cons.mp hp).elim (fun e => e ▸ h.1) (ih h.2 p)
theorem AllLt.mem {d : Nat} (l : List (Addr × Obj)) (h : AllLt d l) : ∀ p ∈ l, p.1 < d := by
  induction l with
  | nil => exact fun p hp => absurd hp List.not_mem_nil
  | cons q r ih => exact fun p hp => (List.mem_cons.mp hp).elim (fun e => e ▸ h.1) (ih h.2 p)
def datH (p : Int × Str) : Dat := .tuple [.int p.1, .str p.2]
theorem HeldIn.dat {tl : List (Addr × Obj)} {vs : List Value} {hs : List (Int × Str)} (x : HeldIn tl vs hs) : DatAll tl vs (hs.map datH) := by
  induction x with
  | nil => exact .nil
  | cons hm _ ih => exact .cons (.tuple hm (.cons (.int _ _) (.cons (.str _ _) .nil))) ih
theorem held_kqd {hs : List (Int × Str)} (h : ∀ p ∈ hs, PyData.strOk p.2 = true) : ∀ e ∈ hs.map datH, kqdOk 8 e = true := by
  intro e he
  obtain ⟨p, hp, rfl⟩ := List.mem_map.mp he
  simp [datH, kqdOk, h p hp]
section
variable {prog : Program} {w : World} {A : Around} {E : Value → Shared → Prop} {s : Shared} {h₀ : Heap} {L D D' : Addr} {news tl : List (Addr × Obj)} {vs : List Value} {n n' : Nat} {hs : List (Int × Str)} {Q : Value → Shared → Prop}
theorem l_eqNil (N : News h₀ L s.heap news) (hm : (D, listOf vs.toArray n) ∈ news) (hm' : (D', listOf ([] : List Value).toArray n') ∈ news) (hH : HeldIn tl vs hs) (ht : ∀ p ∈ tl, p ∈ news) (ho : ∀ p ∈ hs, PyData.strOk p.2 = true) (hu : A.units + 64 < cLine)
    {b : Bool} (hb : hs.isEmpty = b) (h : Q (.bool b) s) : wpAny (model prog w) A (compareOp .Eq (.ref D) (.ref D')) Q E s := by
  refine kqd_eq (xs := vs) (ys := []) (es := []) N hm rfl rfl hH.dat ht hm' rfl rfl DatAll.nil (fun p hp => hp) (held_kqd ho) (fun _ h => absurd h List.not_mem_nil) hu (by rw [← hb] at h; cases hs <;> simpa using h)
theorem l_neNil (N : News h₀ L s.heap news) (hm : (D, listOf vs.toArray n) ∈ news) (hm' : (D', listOf ([] : List Value).toArray n') ∈ news) (hH : HeldIn tl vs hs) (ht : ∀ p ∈ tl, p ∈ news) (ho : ∀ p ∈ hs, PyData.strOk p.2 = true) (hu : A.units + 64 < cLine)
    {b : Bool} (hb : hs.isEmpty = b) (h : Q (.bool (!b)) s) : wpAny (model prog w) A (compareOp .NotEq (.ref D) (.ref D')) Q E s := by
  refine kqd_ne (xs := vs) (ys := []) (es := []) N hm rfl rfl hH.dat ht hm' rfl rfl DatAll.nil (fun p hp => hp) (held_kqd ho) (fun _ h => absurd h List.not_mem_nil) hu (by rw [← hb] at h; cases hs <;> simpa using h)
end
theorem PP_big {names : List Str} {i : Nat} (h : ∀ y ∈ names, y ∈ wordsL) (hl : names.length ≤ i) (hi : i ≤ 1000) : (Str.ofString "/").length + (Str.join (Str.ofString "/") names).length ≤ 1000000 := by
  have h1 := PP_len h
  unfold PP at h1
  rw [Str.length_append] at h1
  omega
theorem HeldIn.erase {tl : List (Addr × Obj)} {vs : List Value} {hs : List (Int × Str)} (x : HeldIn tl vs hs) (k : Nat) : HeldIn tl (vs.take k ++ vs.drop (k + 1)) (hs.eraseIdx k) := by
  rw [erase_cat]
  exact (x.take k).append (x.drop (k + 1))
section
variable {prog : Program} {w : World} {A : Around} {E : Value → Shared → Prop} {s : Shared} {a b : Int} {c : Bool} {t u : Tok} {Q : Value → Shared → Prop}
theorem s_eqI (hf : (a == b) = c) (h : Q (.bool c) s) : wpAny (model prog w) A (compareOp .Eq (.int a t) (.int b u)) Q E s := eq_int (by rw [hf]; exact h)
theorem s_ltI (hf : decide (a < b) = c) (h : Q (.bool c) s) : wpAny (model prog w) A (compareOp .Lt (.int a t) (.int b u)) Q E s := lt_int (by rw [hf]; exact h)
theorem s_neI (hf : (a == b) = c) (h : Q (.bool (!c)) s) : wpAny (model prog w) A (compareOp .NotEq (.int a t) (.int b u)) Q E s := ne_int (by show Q (.bool (!(a == b))) s; rw [hf]; exact h)
end
theorem eqI_f {a b : Int} (h : a ≠ b) : (a == b) = false := by simpa using h
theorem eqI_t {a b : Int} (h : a = b) : (a == b) = true := by simpa using h
theorem ltI_f {a b : Int} (h : ¬ a < b) : decide (a < b) = false := decide_eq_false h
theorem ltI_t {a b : Int} (h : a < b) : decide (a < b) = true := decide_eq_true h
/-- unlike addresses, hidden from omega (it splits every ≠ that it sees) -/
def AllNeA (d : Nat) : List (Addr × Obj) → Prop
  | [] => True
  | p :: r => NeA p.1 d ∧ AllNeA d r
theorem allNeA_of {d : Addr} : ∀ {l : List (Addr × Obj)}, (∀ p ∈ l, p.1 ≠ d) → AllNeA d l
  | [], _ => trivial
  | p :: _, h => ⟨⟨h p (.head _)⟩, allNeA_of fun q hq => h q (.tail _ hq)⟩
theorem nI_A {a b c d e f It : Addr} (h : ∀ p ∈ [a, b, c, d, e, f], p ≠ It) : NeA a It ∧ NeA b It ∧ NeA c It ∧ NeA d It ∧ NeA e It ∧ NeA f It := ⟨⟨h _ (by simp)⟩, ⟨h _ (by simp)⟩, ⟨h _ (by simp)⟩, ⟨h _ (by simp)⟩, ⟨h _ (by simp)⟩, ⟨h _ (by simp)⟩⟩
theorem le3_of {n : Nat} (h : n ≤ 4) (k : ¬ n = 4) : n ≤ 3 := Nat.le_of_lt_succ (Nat.lt_of_le_of_ne h k)
theorem nI_A4 {a b c d It : Addr} (h : ∀ p ∈ [a, b, c, d], p ≠ It) : NeA a It ∧ NeA b It ∧ NeA c It ∧ NeA d It := ⟨⟨h _ (by simp)⟩, ⟨h _ (by simp)⟩, ⟨h _ (by simp)⟩, ⟨h _ (by simp)⟩⟩
end
section
open PySem PySem.W PyProof.Rows PySem.Calls PySem.Spec
set_option maxRecDepth 100000
set_option maxHeartbeats 0
theorem lines_C3_1 : True := by
  k_with_none
  k_with "eval Constant int" => (refine flat_int ?_)
  k_with "eval Constant str" => (refine flat_str ?_)
  k_with "call builtin:issubclass" => (k_here; k_dflt (refine' issub_call ?kqk1 ?_; (case kqk1 => exact News.get (by k_asm) (by k_mem)); k_whole); intro tk)
  k_with "callWith" => (k_here; (with_reducible show wpAny _ _ (callWith _ (Value.builtin _) (_ :: _) _ _) _ _ _); refine callWith_method1 ?_)
  k_with "subscriptTail" => (k_here; (with_reducible show wpAny _ _ (subscriptTail _ _ (Value.ref _) (Value.int _ _)) _ _ _); k_dflt (refine' l_item ?kqk1 ?kqk2 ?kqk0 ?kqkk ?kqkz ?_ ?kqk6; (case kqk1 => k_asm); (case kqk2 => k_mem); (case kqk0 => decide); (case kqkk => exact rfl); (case kqkz => decide); (case kqk6 => with_unfolding_all rfl); k_whole))
  k_with "subscriptTail Name" => (k_here; (with_reducible show wpAny _ _ (subscriptTail _ _ (Value.ref _) (Value.int _ _)) _ _ _); k_dflt (refine' l_item ?kqk1 ?kqk2 ?kqk0 ?kqkk ?kqkz ?_ ?kqk6; (case kqk1 => k_asm); (case kqk2 => k_mem); (case kqk0 => decide); (case kqkk => exact rfl); (case kqkz => decide); (case kqk6 => with_unfolding_all rfl); k_whole))
  k_with "subscriptTail Name Name ref int" => (k_here; (with_reducible show wpAny _ _ (subscriptTail _ _ (Value.ref _) (Value.int _ _)) _ _ _); k_dflt (refine' l_item ?kqk1 ?kqk2 ?kqk0 ?kqkk ?kqkz ?_ ?kqk6; (case kqk1 => k_asm); (case kqk2 => k_mem); (case kqk0 => decide); (case kqkk => exact rfl); (case kqkz => decide); (case kqk6 => with_unfolding_all rfl); k_whole))
  k_with "subscriptTail Name Constant ref int" => (k_here; (with_reducible show wpAny _ _ (subscriptTail _ _ (Value.ref _) (Value.int _ _)) _ _ _); k_dflt (refine' l_item ?kqk1 ?kqk2 ?kqk0 ?kqkk ?kqkz ?_ ?kqk6; (case kqk1 => k_asm); (case kqk2 => k_mem); (case kqk0 => decide); (case kqkk => exact rfl); (case kqkz => decide); (case kqk6 => with_unfolding_all rfl); k_whole))
  trivial
section
variable {w : World} {mean : ExcName → Option Value} {mg mb : Str → Option Value} {dp un : Nat} {gd : Option (List Code)} {cn : Str} {cs : Scope} {a : Addr} {ccd : Value} {cl : List (Str × Addr)} {outer : List Env} {A₀ : Around} {base h₀ : Heap} {L : Addr} {m : Str → Option Value} {news : List (Addr × Obj)} {s : Shared} {Q E : Value → Shared → Prop}
variable {hnd : Option Value}
abbrev topH (hnd : Option Value) (dp un : Nat) (gd : Option (List Code)) (cn : Str) (cs : Scope) (L a : Addr) (ccd : Value) (cl : List (Str × Addr)) (outer : List Env) : Around := { handled := hnd, depth := dp, frames := some (envX cn cs L a ccd cl :: outer), guards := gd, units := un }
/-- a heap of at most four ints -/
def HeapOk : List Int → Prop
  | [] => True
  | [_] => True
  | [a, b] => a ≤ b
  | [a, b, c] => a ≤ b ∧ a ≤ c
  | [a, b, c, d] => a ≤ b ∧ a ≤ c ∧ b ≤ d
  | _ => False
theorem perm_of_count {a b : List Int} (h : ∀ x : Int, a.count x = b.count x) : a.Perm b := List.perm_iff_count.mpr h
theorem least_nil {r : Int} : ∀ x ∈ ([] : List Int), r ≤ x := fun _ h => nomatch h
theorem least_cons {r a : Int} {l : List Int} (h : r ≤ a) (k : ∀ x ∈ l, r ≤ x) : ∀ x ∈ a :: l, r ≤ x := List.forall_mem_cons.mpr ⟨h, k⟩
/-- a heap all but for its leaf at p -/
inductive HB : List Int → Int → Prop
  | c1 {a : Int} : HB [a] 0
  | c2 {a b : Int} : HB [a, b] 1
  | c31 {a b c : Int} : a ≤ c → HB [a, b, c] 1
  | c32 {a b c : Int} : a ≤ b → HB [a, b, c] 2
  | c4 {a b c d : Int} : a ≤ b → a ≤ c → HB [a, b, c, d] 3
theorem ints1 {vs : List Value} {a : Int} (h : IntsAre vs [a]) : ∃ t0, vs = [.int a t0] := by
  rcases h with _ | ⟨_, t0, _ | _⟩
  exact ⟨t0, rfl⟩
theorem ints2 {vs : List Value} {a b : Int} (h : IntsAre vs [a, b]) : ∃ t0 t1, vs = [.int a t0, .int b t1] := by
  rcases h with _ | ⟨_, t0, _ | ⟨_, t1, _ | _⟩⟩
  exact ⟨t0, t1, rfl⟩
theorem ints3 {vs : List Value} {a b c : Int} (h : IntsAre vs [a, b, c]) : ∃ t0 t1 t2, vs = [.int a t0, .int b t1, .int c t2] := by
  rcases h with _ | ⟨_, t0, _ | ⟨_, t1, _ | ⟨_, t2, _ | _⟩⟩⟩
  exact ⟨t0, t1, t2, rfl⟩
theorem ints4 {vs : List Value} {a b c d : Int} (h : IntsAre vs [a, b, c, d]) : ∃ t0 t1 t2 t3, vs = [.int a t0, .int b t1, .int c t2, .int d t3] := by
  rcases h with _ | ⟨_, t0, _ | ⟨_, t1, _ | ⟨_, t2, _ | ⟨_, t3, _ | _⟩⟩⟩⟩
  exact ⟨t0, t1, t2, t3, rfl⟩
theorem sd_spec {lf : Addr} {n : Nat} {vs : List Value} {ns : List Int} {p : Int} {t tp : Tok} (hB : HB ns p) (hI : IntsAre vs ns)
   (B : Below A₀ base outer h₀) (F : Fr h₀ L s.heap m) (X : (hd.heap_39 w.params).In h₀) (N : News h₀ L s.heap ((lf, listOf vs.toArray n) :: news)) (T : Top hd.view_39 (looseW hd.view_39 []) mean mg mb h₀) (hk : cs.kind = .function)
   (hdp : dp + 1 < recursionLimit) (hun : un + 8 < cLine) (hne : ∀ p ∈ news, p.1 ≠ lf)
   (ret : ∀ vs' n' ns' h' tk', IntsAre vs' ns' → ns'.Perm ns → HeapOk ns' → Fr h₀ L h' m → News h₀ L h' ((lf, listOf vs'.toArray n') :: news) → Q .none { s with heap := h', toks := tk' }) :
   wpAny (model Challenge.rw_pd0171_01.row.prog w) (topH hnd dp un gd cn cs L a ccd cl outer) (call (.ref 100) [.ref lf, .int 0 t, .int p tp]) Q E s := by
  revert X
  k_fill
  intro X
  have NH : HidN h₀ L s.heap [(lf, listOf vs.toArray n)] := ⟨fun p hp => N p (by rw [List.mem_singleton.mp hp]; exact .head _)⟩
  have NR : RestN h₀ L s.heap [(lf, listOf vs.toArray n)] news := ⟨fun p hp => N p (.tail _ hp), fun p hp h => hne p hp (List.mem_singleton.mp h)⟩
  clear N hne
  rcases hB with _ | _ | h1 | h1 | ⟨h1, h2⟩
  case' c1 => obtain ⟨t0, rfl⟩ := ints1 hI
  case' c2 => obtain ⟨t0, t1, rfl⟩ := ints2 hI
  case' c31 => obtain ⟨t0, t1, t2, rfl⟩ := ints3 hI
  case' c32 => obtain ⟨t0, t1, t2, rfl⟩ := ints3 hI
  case' c4 => obtain ⟨t0, t1, t2, t3, rfl⟩ := ints4 hI
  all_goals (
    refine wpAny_call ?_
    k_dflt cell_enter
    k_steps
    all_goals (
      (first | (refine ret [_] _ [_]  _ _ (.cons _ _ .nil) ?hp ?hk (by k_asm) (by first | exact news_pre (a := [_]) (by assumption) (List.Mem.head _) (by assumption) | exact news_pre (a := [_, _]) (by assumption) (List.Mem.tail _ (List.Mem.head _)) (by assumption))) | (refine ret [_, _] _ [_, _]  _ _ (.cons _ _ (.cons _ _ .nil)) ?hp ?hk (by k_asm) (by first | exact news_pre (a := [_]) (by assumption) (List.Mem.head _) (by assumption) | exact news_pre (a := [_, _]) (by assumption) (List.Mem.tail _ (List.Mem.head _)) (by assumption))) | (refine ret [_, _, _] _ [_, _, _]  _ _ (.cons _ _ (.cons _ _ (.cons _ _ .nil))) ?hp ?hk (by k_asm) (by first | exact news_pre (a := [_]) (by assumption) (List.Mem.head _) (by assumption) | exact news_pre (a := [_, _]) (by assumption) (List.Mem.tail _ (List.Mem.head _)) (by assumption))) | (refine ret [_, _, _, _] _ [_, _, _, _]  _ _ (.cons _ _ (.cons _ _ (.cons _ _ (.cons _ _ .nil)))) ?hp ?hk (by k_asm) (by first | exact news_pre (a := [_]) (by assumption) (List.Mem.head _) (by assumption) | exact news_pre (a := [_, _]) (by assumption) (List.Mem.tail _ (List.Mem.head _)) (by assumption))))
      case hp => exact perm_of_count (by intro x; first | (simp only [List.count_cons, List.count_nil]; omega) | (simp [List.count_cons]; omega) | (simp [List.count_cons]; done))
      case hk => first | exact True.intro | (simp only [HeapOk]; omega)))
theorem lines_C3_2 : True := by
  k_with "call ref" => (k_here; (with_reducible show wpAny _ _ (call (Value.ref 100) _) _ _ _); k_dflt (refine' sd_spec ?kqhB ?kqhI ?kqk1 ?kqk2 ?kqk3 ?kqk4 ?kqk5 ?kqkK ?kqkd ?kqku ?kqkn ?_; (case kqk4 => k_asm); (case kqhI => first | assumption | exact IntsAre.nil | exact (.cons _ _ .nil) | exact (.cons _ _ (.cons _ _ .nil)) | exact (.cons _ _ (.cons _ _ (.cons _ _ .nil))) | exact (.cons _ _ (.cons _ _ (.cons _ _ (.cons _ _ .nil))))); (case kqhB => first | exact .c1 | exact .c2 | (refine HB.c31 ?_; omega) | (refine HB.c32 ?_; omega) | (refine HB.c4 ?_ ?_ <;> omega)); (case kqk1 => k_asm); (case kqk2 => k_asm); (case kqk3 => k_asm); (case kqk5 => k_asm); (case kqkK => first | exact rfl | assumption); (case kqkd => ktr_room); (case kqku => ktr_units); (case kqkn => k_all); k_whole); intro vs' n' ns' h' tk' I' P' H' F' N'; (try k_sweep))
  trivial
inductive HU : List Int → Prop
  | c1 {a : Int} : HU [a]
  | c2 {a b : Int} : HU [a, b]
  | c3 {a b c : Int} : HU [a, b, c]
theorem su_spec {lf : Addr} {n : Nat} {vs : List Value} {ns : List Int} {t : Tok} (hB : HU ns) (hI : IntsAre vs ns)
   (B : Below A₀ base outer h₀) (F : Fr h₀ L s.heap m) (X : (hd.heap_39 w.params).In h₀) (N : News h₀ L s.heap ((lf, listOf vs.toArray n) :: news)) (T : Top hd.view_39 (looseW hd.view_39 []) mean mg mb h₀) (hk : cs.kind = .function)
   (hdp : dp + 2 < recursionLimit) (hun : un + 16 < cLine) (hne : ∀ p ∈ news, p.1 ≠ lf)
   (ret : ∀ vs' n' ns' h' tk', IntsAre vs' ns' → ns'.Perm ns → HeapOk ns' → Fr h₀ L h' m → News h₀ L h' ((lf, listOf vs'.toArray n') :: news) → Q .none { s with heap := h', toks := tk' }) :
   wpAny (model Challenge.rw_pd0171_01.row.prog w) (topH hnd dp un gd cn cs L a ccd cl outer) (call (.ref 107) [.ref lf, .int 0 t]) Q E s := by
  revert X
  k_fill
  intro X
  have NH : HidN h₀ L s.heap [(lf, listOf vs.toArray n)] := ⟨fun p hp => N p (by rw [List.mem_singleton.mp hp]; exact .head _)⟩
  have NR : RestN h₀ L s.heap [(lf, listOf vs.toArray n)] news := ⟨fun p hp => N p (.tail _ hp), fun p hp h => hne p hp (List.mem_singleton.mp h)⟩
  clear N hne
  rcases hB with _ | _ | _
  case' c1 => obtain ⟨t0, rfl⟩ := ints1 hI
  case' c2 => obtain ⟨t0, t1, rfl⟩ := ints2 hI
  case' c3 => obtain ⟨t0, t1, t2, rfl⟩ := ints3 hI
  all_goals (
    refine wpAny_call ?_
    k_dflt cell_enter
    k_steps
    all_goals (
      (rename IntsAre _ _ => I9); (rename (List.Perm _ _) => P9); (rename HeapOk _ => H9)
      exact ret _ _ _ _ _ I9 (P9.trans (perm_of_count (by intro x; first | (simp only [List.count_cons, List.count_nil]; omega) | (simp [List.count_cons]; omega) | (simp [List.count_cons]; done)))) H9 (by k_asm) (by first | exact news_pre (a := [_]) (by assumption) (List.Mem.head _) (by assumption) | exact news_pre (a := [_, _]) (by assumption) (List.Mem.tail _ (List.Mem.head _)) (by assumption))))
theorem UpdF.front {h₀ h : Heap} {L d : Addr} {o : Obj} {news : List (Addr × Obj)} {g : Obj → List (Addr × Obj)} (U : UpdF d o news g) (N : News h₀ L h news) :
    ∃ rest, News h₀ L h ((d, o) :: rest) ∧ (∀ p ∈ rest, p.1 ≠ d) ∧ ∀ h' o', News h₀ L h' ((d, o') :: rest) → News h₀ L h' (g o') := by
  obtain ⟨pre, post, e1, e2, e3, e4⟩ := U.split
  refine ⟨pre ++ post, fun p hp => N p ?_, fun p hp => (List.mem_append.mp hp).elim (e3 p) (e4 p), fun h' o' N' p hp => N' p ?_⟩
  · rw [e1]
    rcases List.mem_cons.mp hp with rfl | hp
    · simp
    · rcases List.mem_append.mp hp with hp | hp <;> simp [hp]
  · rw [e2] at hp
    rcases List.mem_append.mp hp with hp | hp
    · simp [hp]
    · rcases List.mem_cons.mp hp with rfl | hp
      · simp
      · simp [hp]
theorem su_K {lf : Addr} {n : Nat} {vs : List Value} {ns : List Int} {t : Tok} {g : Obj → List (Addr × Obj)} (hB : HU ns) (hI : IntsAre vs ns)
   (B : Below A₀ base outer h₀) (F : Fr h₀ L s.heap m) (X : (hd.heap_39 w.params).In h₀) (N : News h₀ L s.heap news) (U : UpdF lf (listOf vs.toArray n) news g) (T : Top hd.view_39 (looseW hd.view_39 []) mean mg mb h₀) (hk : cs.kind = .function)
   (hdp : dp + 2 < recursionLimit) (hun : un + 16 < cLine)
   (ret : ∀ vs' n' ns' h' tk', IntsAre vs' ns' → ns'.Perm ns → HeapOk ns' → Fr h₀ L h' m → News h₀ L h' (g (listOf vs'.toArray n')) → Q .none { s with heap := h', toks := tk' }) :
   wpAny (model Challenge.rw_pd0171_01.row.prog w) (topH hnd dp un gd cn cs L a ccd cl outer) (call (.ref 107) [.ref lf, .int 0 t]) Q E s := by
  obtain ⟨rest, N1, hne, back⟩ := UpdF.front U N
  exact su_spec hB hI B F X N1 T hk hdp hun hne fun vs' n' ns' h' tk' a1 a2 a3 a4 a5 => ret vs' n' ns' h' tk' a1 a2 a3 a4 (back _ _ a5)
theorem lines_C3_3 : True := by
  k_with "call ref" => (k_here; (with_reducible show wpAny _ _ (call (Value.ref 107) _) _ _ _); k_dflt (refine' su_K ?kqhB ?kqhI ?kqk1 ?kqk2 ?kqk3 ?kqk4 ?kqkU ?kqk5 ?kqkK ?kqkd ?kqku ?_; (case kqk4 => k_asm); (case kqkU => k_updF); (case kqhI => first | assumption | exact IntsAre.nil | exact (.cons _ _ .nil) | exact (.cons _ _ (.cons _ _ .nil)) | exact (.cons _ _ (.cons _ _ (.cons _ _ .nil))) | exact (.cons _ _ (.cons _ _ (.cons _ _ (.cons _ _ .nil))))); (case kqhB => first | exact .c1 | exact .c2 | exact .c3); (case kqk1 => k_asm); (case kqk2 => k_asm); (case kqk3 => k_asm); (case kqk5 => k_asm); (case kqkK => first | exact rfl | assumption); (case kqkd => ktr_room); (case kqku => ktr_units); k_whole); intro vs' n' ns' h' tk' I' P' H' F' N'; (try k_sweep))
  k_with "call builtin:list.append" => (k_here; k_dflt (refine' l_append ?kqk1 ?kqk2 ?kqk3 ?kqz ?_; (case kqk1 => k_asm); (case kqk2 => k_asm); (case kqk3 => k_upd); (case kqz => (simp; done)); k_whole); intro h' F' N'; (try k_sweep))
  trivial
theorem heappush_spec {lf : Addr} {n : Nat} {vs : List Value} {ns : List Int} {v : Int} {t : Tok} (hlen : ns.length ≤ 3) (hI : IntsAre vs ns) (hH : HeapOk ns)
   (B : Below A₀ base outer h₀) (F : Fr h₀ L s.heap m) (X : (hd.heap_39 w.params).In h₀) (N : News h₀ L s.heap ((lf, listOf vs.toArray n) :: news)) (T : Top hd.view_39 (looseW hd.view_39 []) mean mg mb h₀) (hk : cs.kind = .function)
   (hdp : dp + 2 < recursionLimit) (hun : un + 16 < cLine) (hne : ∀ p ∈ news, p.1 ≠ lf)
   (ret : ∀ vs' n' ns' h' tk', IntsAre vs' ns' → ns'.Perm (v :: ns) → HeapOk ns' → Fr h₀ L h' m → News h₀ L h' ((lf, listOf vs'.toArray n') :: news) → Q .none { s with heap := h', toks := tk' }) :
   wpAny (model Challenge.rw_pd0171_01.row.prog w) (topH hnd dp un gd cn cs L a ccd cl outer) (call (.ref 79) [.ref lf, .int v t]) Q E s := by
  revert X
  k_fill
  intro X
  have NH : HidN h₀ L s.heap [(lf, listOf vs.toArray n)] := ⟨fun p hp => N p (by rw [List.mem_singleton.mp hp]; exact .head _)⟩
  have NR : RestN h₀ L s.heap [(lf, listOf vs.toArray n)] news := ⟨fun p hp => N p (.tail _ hp), fun p hp h => hne p hp (List.mem_singleton.mp h)⟩
  clear N hne
  rcases hI with _ | ⟨a0, t0, _ | ⟨a1, t1, _ | ⟨a2, t2, _ | ⟨a3, t3, _ | ⟨a4, t4, hI⟩⟩⟩⟩⟩
  case cons.cons.cons.cons.cons => exact hH.elim
  case cons.cons.cons.cons.nil => simp at hlen
  all_goals try simp only [HeapOk] at hH
  all_goals (
    refine wpAny_call ?_
    k_dflt cell_enter
    k_steps
    all_goals (
      (rename IntsAre _ _ => I9); (rename (List.Perm _ _) => P9); (rename HeapOk _ => H9)
      exact ret _ _ _ _ _ I9 (P9.trans (perm_of_count (by intro x; first | (simp only [List.count_cons, List.count_nil]; omega) | (simp [List.count_cons]; omega) | (simp [List.count_cons]; done)))) H9 (by k_asm) (by first | exact news_pre (a := [_]) (by assumption) (List.Mem.head _) (by assumption) | exact news_pre (a := [_, _]) (by assumption) (List.Mem.tail _ (List.Mem.head _)) (by assumption))))
theorem heappop_spec {lf : Addr} {n : Nat} {vs : List Value} {ns : List Int} (hlen : 0 < ns.length) (hI : IntsAre vs ns) (hH : HeapOk ns)
   (B : Below A₀ base outer h₀) (F : Fr h₀ L s.heap m) (X : (hd.heap_39 w.params).In h₀) (N : News h₀ L s.heap ((lf, listOf vs.toArray n) :: news)) (T : Top hd.view_39 (looseW hd.view_39 []) mean mg mb h₀) (hk : cs.kind = .function)
   (hdp : dp + 3 < recursionLimit) (hun : un + 24 < cLine) (hne : ∀ p ∈ news, p.1 ≠ lf)
   (ret : ∀ vs' n' ns' r t' h' tk', IntsAre vs' ns' → (r :: ns').Perm ns → HeapOk ns' → (∀ x ∈ ns, r ≤ x) → Fr h₀ L h' m → News h₀ L h' ((lf, listOf vs'.toArray n') :: news) → Q (.int r t') { s with heap := h', toks := tk' }) :
   wpAny (model Challenge.rw_pd0171_01.row.prog w) (topH hnd dp un gd cn cs L a ccd cl outer) (call (.ref 86) [.ref lf]) Q E s := by
  revert X
  k_fill
  intro X
  have NH : HidN h₀ L s.heap [(lf, listOf vs.toArray n)] := ⟨fun p hp => N p (by rw [List.mem_singleton.mp hp]; exact .head _)⟩
  have NR : RestN h₀ L s.heap [(lf, listOf vs.toArray n)] news := ⟨fun p hp => N p (.tail _ hp), fun p hp h => hne p hp (List.mem_singleton.mp h)⟩
  clear N hne
  rcases hI with _ | ⟨a0, t0, _ | ⟨a1, t1, _ | ⟨a2, t2, _ | ⟨a3, t3, _ | ⟨a4, t4, hI⟩⟩⟩⟩⟩
  case cons.cons.cons.cons.cons => exact hH.elim
  case nil => simp at hlen
  all_goals try simp only [HeapOk] at hH
  all_goals (
    refine wpAny_call ?_
    k_dflt cell_enter
    k_steps
    all_goals (
      (first | ((rename IntsAre _ _ => I9); (rename (List.Perm _ _) => P9); (rename HeapOk _ => H9); refine ret _ _ _ _ _ _ _ I9 ((P9.cons _).trans (perm_of_count ?_)) H9 ?_ (by k_asm) (by first | exact news_pre (a := [_]) (by assumption) (List.Mem.head _) (by assumption) | exact news_pre (a := [_, _]) (by assumption) (List.Mem.tail _ (List.Mem.head _)) (by assumption))) | (refine ret [] _ [] _ _ _ _ .nil (perm_of_count ?_) ?_ ?_ (by k_asm) (by first | exact news_pre (a := [_]) (by assumption) (List.Mem.head _) (by assumption) | exact news_pre (a := [_, _]) (by assumption) (List.Mem.tail _ (List.Mem.head _)) (by assumption))) | (refine ret [_] _ [_] _ _ _ _ (.cons _ _ .nil) (perm_of_count ?_) ?_ ?_ (by k_asm) (by first | exact news_pre (a := [_]) (by assumption) (List.Mem.head _) (by assumption) | exact news_pre (a := [_, _]) (by assumption) (List.Mem.tail _ (List.Mem.head _)) (by assumption))) | (refine ret [_, _] _ [_, _] _ _ _ _ (.cons _ _ (.cons _ _ .nil)) (perm_of_count ?_) ?_ ?_ (by k_asm) (by first | exact news_pre (a := [_]) (by assumption) (List.Mem.head _) (by assumption) | exact news_pre (a := [_, _]) (by assumption) (List.Mem.tail _ (List.Mem.head _)) (by assumption))) | (refine ret [_, _, _] _ [_, _, _] _ _ _ _ (.cons _ _ (.cons _ _ (.cons _ _ .nil))) (perm_of_count ?_) ?_ ?_ (by k_asm) (by first | exact news_pre (a := [_]) (by assumption) (List.Mem.head _) (by assumption) | exact news_pre (a := [_, _]) (by assumption) (List.Mem.tail _ (List.Mem.head _)) (by assumption))))
      all_goals first
        | ((repeat (first | exact least_nil | (refine least_cons (by omega) ?_))); done)
        | exact True.intro
        | (simp only [HeapOk]; omega)
        | (intro x; first | (simp only [List.count_cons, List.count_nil]; omega) | (simp [List.count_cons]; omega) | (simp [List.count_cons]; done) | (simp only [List.count_cons, List.count_nil]; done))))
theorem heappushpop_spec {lf : Addr} {n : Nat} {vs : List Value} {ns : List Int} {v : Int} {t : Tok} (hlen : ns.length ≤ 3) (hI : IntsAre vs ns) (hH : HeapOk ns)
   (B : Below A₀ base outer h₀) (F : Fr h₀ L s.heap m) (X : (hd.heap_39 w.params).In h₀) (N : News h₀ L s.heap ((lf, listOf vs.toArray n) :: news)) (T : Top hd.view_39 (looseW hd.view_39 []) mean mg mb h₀) (hk : cs.kind = .function)
   (hdp : dp + 3 < recursionLimit) (hun : un + 24 < cLine) (hne : ∀ p ∈ news, p.1 ≠ lf)
   (ret : ∀ vs' n' ns' r t' h' tk', IntsAre vs' ns' → (r :: ns').Perm (v :: ns) → HeapOk ns' → (∀ x ∈ v :: ns, r ≤ x) → Fr h₀ L h' m → News h₀ L h' ((lf, listOf vs'.toArray n') :: news) → Q (.int r t') { s with heap := h', toks := tk' }) :
   wpAny (model Challenge.rw_pd0171_01.row.prog w) (ktrTop dp un gd cn cs L a ccd cl outer) (call (.ref 93) [.ref lf, .int v t]) Q E s := by
  revert X
  k_fill
  intro X
  have NH : HidN h₀ L s.heap [(lf, listOf vs.toArray n)] := ⟨fun p hp => N p (by rw [List.mem_singleton.mp hp]; exact .head _)⟩
  have NR : RestN h₀ L s.heap [(lf, listOf vs.toArray n)] news := ⟨fun p hp => N p (.tail _ hp), fun p hp h => hne p hp (List.mem_singleton.mp h)⟩
  clear N hne
  rcases hI with _ | ⟨a0, t0, _ | ⟨a1, t1, _ | ⟨a2, t2, _ | ⟨a3, t3, _ | ⟨a4, t4, hI⟩⟩⟩⟩⟩
  case cons.cons.cons.cons.cons => exact hH.elim
  case cons.cons.cons.cons.nil => simp at hlen
  all_goals try simp only [HeapOk] at hH
  all_goals (
    refine wpAny_call ?_
    k_dflt cell_enter
    k_steps
    all_goals (
      (first | ((rename IntsAre _ _ => I9); (rename (List.Perm _ _) => P9); (rename HeapOk _ => H9); refine ret _ _ _ _ _ _ _ I9 ((P9.cons _).trans (perm_of_count ?_)) H9 ?_ (by k_asm) (by first | exact news_pre (a := [_]) (by assumption) (List.Mem.head _) (by assumption) | exact news_pre (a := [_, _]) (by assumption) (List.Mem.tail _ (List.Mem.head _)) (by assumption))) | (refine ret [] _ [] _ _ _ _ .nil (perm_of_count ?_) ?_ ?_ (by k_asm) (by first | exact news_pre (a := [_]) (by assumption) (List.Mem.head _) (by assumption) | exact news_pre (a := [_, _]) (by assumption) (List.Mem.tail _ (List.Mem.head _)) (by assumption))) | (refine ret [_] _ [_] _ _ _ _ (.cons _ _ .nil) (perm_of_count ?_) ?_ ?_ (by k_asm) (by first | exact news_pre (a := [_]) (by assumption) (List.Mem.head _) (by assumption) | exact news_pre (a := [_, _]) (by assumption) (List.Mem.tail _ (List.Mem.head _)) (by assumption))) | (refine ret [_, _] _ [_, _] _ _ _ _ (.cons _ _ (.cons _ _ .nil)) (perm_of_count ?_) ?_ ?_ (by k_asm) (by first | exact news_pre (a := [_]) (by assumption) (List.Mem.head _) (by assumption) | exact news_pre (a := [_, _]) (by assumption) (List.Mem.tail _ (List.Mem.head _)) (by assumption))) | (refine ret [_, _, _] _ [_, _, _] _ _ _ _ (.cons _ _ (.cons _ _ (.cons _ _ .nil))) (perm_of_count ?_) ?_ ?_ (by k_asm) (by first | exact news_pre (a := [_]) (by assumption) (List.Mem.head _) (by assumption) | exact news_pre (a := [_, _]) (by assumption) (List.Mem.tail _ (List.Mem.head _)) (by assumption))))
      all_goals first
        | ((repeat (first | exact least_nil | (refine least_cons (by omega) ?_))); done)
        | exact True.intro
        | (simp only [HeapOk]; omega)
        | (intro x; first | (simp only [List.count_cons, List.count_nil]; omega) | (simp [List.count_cons]; omega) | (simp [List.count_cons]; done) | (simp only [List.count_cons, List.count_nil]; done))))
end
end
section
open PySem PySem.W PyProof.Rows PySem.Calls PySem.Spec
set_option maxRecDepth 100000
set_option maxHeartbeats 0
theorem lines_C5_1 : True := by
  k_with_none
  k_with "eval Constant int" => (refine flat_int ?_)
  k_with "eval Constant str" => (refine flat_str ?_)
  k_with "call builtin:issubclass" => (k_here; k_dflt (refine' issub_call ?kqk1 ?_; (case kqk1 => exact News.get (by k_asm) (by k_mem)); k_whole); intro tk)
  k_with "call builtin:str.find" => (k_here; k_dflt (first | (refine' s_find ?kqz ?_; (case kqz => assumption); k_whole) | (refine' s_find3 ?kqz ?_; (case kqz => assumption); k_whole)); intro t')
  k_with "subscriptTail" => (k_here; (with_reducible show wpAny _ _ (subscriptTail _ _ (Value.str _ _) (Value.int _ _)) _ _ _); k_dflt (refine' s_item ?kqz0 ?kqz1 ?kqz2 ?kqz ?_ ?kqy1 ?kqy2; (case kqz => assumption); (case kqz0 => omega); (case kqz1 => omega); (case kqz2 => omega); (case kqy1 => with_unfolding_all rfl); (case kqy2 => (intro _; with_unfolding_all rfl)); k_whole); intro t' k')
  k_with "subscriptTail Name Slice str ref" => (k_here; k_dflt (first | (refine' s_slice_ns ?kqf ?kqn ?kqx ?kqz ?_ ?kqy1 ?kqy2; (case kqz => assumption); (case kqf => k_asm); (case kqn => k_asm); (case kqx => omega); (case kqy1 => with_unfolding_all rfl); (case kqy2 => (intro _; with_unfolding_all rfl)); k_whole) | (refine' s_slice_ss ?kqf ?kqn ?kqx ?kqz ?_ ?kqy1 ?kqy2; (case kqz => assumption); (case kqf => k_asm); (case kqn => k_asm); (case kqx => omega); (case kqy1 => with_unfolding_all rfl); (case kqy2 => (intro _; with_unfolding_all rfl)); k_whole)); intro h' t' k' F' N'; (try k_sweep))
  k_with "call builtin:str.split" => (k_here; k_dflt (refine' s_split ?kqf ?kqn ?kqy ?kqx ?kqz ?_; (case kqz => assumption); (case kqf => k_asm); (case kqn => k_asm); (case kqy => first | rfl | assumption); (case kqx => omega); k_whole); intro D' vs' h' k' S' F' N' l1; (try k_lt l1); (try (obtain ⟨t0', t1', t2', t3', t4', e'⟩ := strs5 S'; subst e')); (try k_sweep))
  k_with "subscriptTail Name BinOp str int" => (k_here; (with_reducible show wpAny _ _ (subscriptTail _ _ (Value.str _ _) (Value.int _ _)) _ _ _); k_dflt (refine' s_item ?kqz0 ?kqz1 ?kqz2 ?kqz ?_ ?kqy1 ?kqy2; (case kqz => assumption); (case kqz0 => omega); (case kqz1 => omega); (case kqz2 => omega); (case kqy1 => with_unfolding_all rfl); (case kqy2 => (intro _; with_unfolding_all rfl)); k_whole); intro t' k')
  k_with "subscriptTail Name Name str int" => (k_here; (with_reducible show wpAny _ _ (subscriptTail _ _ (Value.str _ _) (Value.int _ _)) _ _ _); k_dflt (refine' s_item ?kqz0 ?kqz1 ?kqz2 ?kqz ?_ ?kqy1 ?kqy2; (case kqz => assumption); (case kqz0 => omega); (case kqz1 => omega); (case kqz2 => omega); (case kqy1 => with_unfolding_all rfl); (case kqy2 => (intro _; with_unfolding_all rfl)); k_whole); intro t' k')
  k_with "subscriptTail Name Constant str int" => (k_here; (with_reducible show wpAny _ _ (subscriptTail _ _ (Value.str _ _) (Value.int _ _)) _ _ _); k_dflt (refine' s_item ?kqz0 ?kqz1 ?kqz2 ?kqz ?_ ?kqy1 ?kqy2; (case kqz => assumption); (case kqz0 => omega); (case kqz1 => omega); (case kqz2 => omega); (case kqy1 => with_unfolding_all rfl); (case kqy2 => (intro _; with_unfolding_all rfl)); k_whole); intro t' k')
  k_with "subscriptTail Name Constant ref int" => (k_here; k_dflt (refine' item_tupleT ?kqt ?kqa ?kqb ?kqc ?kqd ?_; (case kqt => exact tup_kept (by assumption) (by k_asm)); (case kqa => decide); (case kqb => decide); (case kqc => rfl); (case kqd => rfl); k_whole))
  k_with "subscriptTail" => (k_here; k_dflt (refine' item_tupleT ?kqt ?kqa ?kqb ?kqc ?kqd ?_; (case kqt => exact tup_kept (by assumption) (by k_asm)); (case kqa => decide); (case kqb => decide); (case kqc => rfl); (case kqd => rfl); k_whole))
  k_with "leaving ref" => (k_here; k_dflt (refine' leave_raiseS ?kqK ?kqhx ?kqF ?kqN ?_ ?kqhk; (case kqK => k_asm); (case kqhx => assumption); (case kqF => k_asm); (case kqN => k_asm); (case kqhk => rfl); k_whole); intro h' t' R' RK' U')
  trivial
section
variable {w : World} {mean : ExcName → Option Value} {mg mb : Str → Option Value} {dp un : Nat} {gd : Option (List Code)} {cn : Str} {cs : Scope} {a : Addr} {ccd : Value} {cl : List (Str × Addr)} {outer : List Env} {A₀ : Around} {base h₀ : Heap} {L : Addr} {m : Str → Option Value} {news : List (Addr × Obj)} {s : Shared} {Q E : Value → Shared → Prop}
theorem fresh_none {h₀ h g h' : Heap} {L L' r : Addr} {o' : Obj} {news led : List (Addr × Obj)} (R : Rests h g []) (N : News h₀ L h news) (NG : News g L' h' led) (hr : (r, o') ∈ led) : ∀ p ∈ news, p.1 ≠ r := by
  intro p hp e
  have h1 := R _ _ (N p hp).1 List.not_mem_nil
  rw [e, (NG _ hr).2.2] at h1
  cases h1
theorem parse229_ok {x S p0 p1 p2 p4 M host : Str} {r port : Int} {t tt th ti : Tok} {pa : Addr} (hx : x.length ≤ 2000) (h1 : Txt.slice x none (some 3) = Str.ofString "229") (h2 : Txt.find x (Str.ofString "(") = 7) (h3 : Txt.find3 x (Str.ofString ")") (7 + 1) = r) (hr : 9 ≤ r) (hr2 : r ≤ x.length) (h4 : Txt.item x (7 + 1) = M) (h5 : Txt.item x (r - 1) = M) (hM : (M.length == 0) = false) (h6 : Txt.slice x (some (7 + 1)) (some r) = S) (hS : S.length ≤ 2000) (h7 : Txt.split S M = [p0, p1, p2, Str.ofString (toString port), p4]) (hp : 0 ≤ port) (hp2 : port < 10 ^ 10)
   (B : Below A₀ base outer h₀) (F : Fr h₀ L s.heap m) (X : (hd.heap_39 w.params).In h₀) (N : News h₀ L s.heap news) (T : Top hd.view_39 (looseW hd.view_39 []) mean mg mb h₀) (hk : cs.kind = .function)
   (hdp : dp + 1 < recursionLimit) (hun : un + 8 < cLine)
   (hpa : s.heap.get? pa = some { cls := .type "tuple", data := .seq [.str host th, .int 21 ti].toArray }) (ret : ∀ r t' h' tk', (∀ p ∈ news, p.1 ≠ r) → Fr h₀ L h' m → News h₀ L h' ((r, { cls := .type "tuple", data := .seq #[.str host th, .int port t'] }) :: news) → Q (.ref r) { s with heap := h', toks := tk' }) :
   wpAny (model Challenge.rw_pd0171_01.row.prog w) (ktrTop dp un gd cn cs L a ccd cl outer) (call (.ref 65) [.str x t, .ref pa]) Q E s := by
  revert X
  k_fill
  intro X
  have NH : HidN h₀ L s.heap [] := HidN.none
  have NR : RestN h₀ L s.heap [] news := RestN.all N
  refine wpAny_call ?_
  k_dflt cell_enter
  rename Rests _ _ _ => HR
  have hTup := tup_rests HR hpa
  k_steps
  all_goals first
    | exact absurd (by assumption) (by simp : ¬ (M != M) = true)
    | exact ret _ _ _ _ (fresh_none HR N (by assumption) (by k_mem)) (by k_asm) (news_pre (a := [_, _]) (by assumption) (List.Mem.head _) (by assumption))
theorem raised_drop {base G : Heap} {l : List Env} {e ta : Addr} {cls : Value} {vs : List Value} {news news' : List (Addr × Obj)} {h : Heap} (R : RaisedS base G l e cls ta vs news' h) (hs : ∀ p ∈ news, p ∈ news') : RaisedS base G l e cls ta vs news h := by
  obtain ⟨⟨B, h1, h2, h3, h4, h5⟩, h6⟩ := R
  exact ⟨⟨B, h1, h2, fun q hq => h3 q (hs q hq), h4, h5⟩, h6⟩
theorem parse229_421 {x : Str} {t : Tok} {pa : Addr} (hx : x.length ≤ 2000) (h1 : Txt.slice x none (some 3) = Str.ofString "421")
   (B : Below A₀ base outer h₀) (F : Fr h₀ L s.heap m) (X : (hd.heap_39 w.params).In h₀) (N : News h₀ L s.heap news) (T : Top hd.view_39 (looseW hd.view_39 []) mean mg mb h₀) (hk : cs.kind = .function)
   (hdp : dp + 1 < recursionLimit) (hun : un + 8 < cLine)
   (err : ∀ g e ta h' tk', Fr h₀ L g m → RaisedS base g (envX cn cs L a ccd cl :: outer) e (.ref 44) ta [.str x t] news h' → g.UpToSlots h' → E (.ref e) { s with heap := h', toks := tk' }) :
   wpAny (model Challenge.rw_pd0171_01.row.prog w) (ktrTop dp un gd cn cs L a ccd cl outer) (call (.ref 65) [.str x t, .ref pa]) Q E s := by
  revert X
  k_fill
  intro X
  have NH : HidN h₀ L s.heap [] := HidN.none
  have NR : RestN h₀ L s.heap [] news := RestN.all N
  refine wpAny_call ?_
  k_dflt (refine' code_def ?k1 ?k2 ?k3 ?k4 ?k5 ?kA ?kF ?kK ?k6 ?k7 ?k8 ?k9 ?kB ?_ ?c2 ?c3 ?c4 ?c5; (case kA => exact rfl); (case kF => exact rfl); (case kK => assumption); (case k1 => k_asm); (case k2 => k_asm); (case k3 => k_asm); (case k4 => k_asm); (case k5 => k_asm); (case k6 => k_is); (case k7 => k_is); (case k8 => ktr_room); (case k9 => exact BindsTo.of_eq rfl); (case c5 => decide); (case kB => exact locs rfl); (case c2 => exact rfl); (case c3 => exact rfl); (case c4 => exact rfl); k_whole; intro g' L' h' FG' F' N' B' X' T'; (try dsimp only); (try k_lift B'); (try k_fold))
  k_steps
  all_goals first
    | exact err _ _ _ _ _ (by assumption) (by assumption) (by assumption)
    | exact err _ _ _ _ _ (by assumption) (raised_drop (by assumption) (fun p hp => List.Mem.tail _ hp)) (by assumption)
    | (exfalso; simp_all; done)
theorem parse229_bad1 {x S p0 p1 p2 p4 M host : Str} {r port : Int} {t tt th ti : Tok} {pa : Addr} (hx : x.length ≤ 2000) (h1 : Txt.slice x none (some 3) = Str.ofString "229") (h2 : Txt.find x (Str.ofString "(") = 7) (h3 : Txt.find3 x (Str.ofString ")") (7 + 1) = r) (hr : 9 ≤ r) (hr2 : r ≤ x.length) (h4 : Txt.item x (7 + 1) = M) {M2 : Str} (h5 : Txt.item x (r - 1) = M2) (hne : (M != M2) = true)
   (B : Below A₀ base outer h₀) (F : Fr h₀ L s.heap m) (X : (hd.heap_39 w.params).In h₀) (N : News h₀ L s.heap news) (T : Top hd.view_39 (looseW hd.view_39 []) mean mg mb h₀) (hk : cs.kind = .function)
   (hdp : dp + 1 < recursionLimit) (hun : un + 8 < cLine)
   (err : ∀ g e ta h' tk', Fr h₀ L g m → RaisedS base g (envX cn cs L a ccd cl :: outer) e (.ref 56) ta [.str x t] news h' → g.UpToSlots h' → E (.ref e) { s with heap := h', toks := tk' }) :
   wpAny (model Challenge.rw_pd0171_01.row.prog w) (ktrTop dp un gd cn cs L a ccd cl outer) (call (.ref 65) [.str x t, .ref pa]) Q E s := by
  revert X
  k_fill
  intro X
  have NH : HidN h₀ L s.heap [] := HidN.none
  have NR : RestN h₀ L s.heap [] news := RestN.all N
  refine wpAny_call ?_
  k_dflt (refine' code_def ?k1 ?k2 ?k3 ?k4 ?k5 ?kA ?kF ?kK ?k6 ?k7 ?k8 ?k9 ?kB ?_ ?c2 ?c3 ?c4 ?c5; (case kA => exact rfl); (case kF => exact rfl); (case kK => assumption); (case k1 => k_asm); (case k2 => k_asm); (case k3 => k_asm); (case k4 => k_asm); (case k5 => k_asm); (case k6 => k_is); (case k7 => k_is); (case k8 => ktr_room); (case k9 => exact BindsTo.of_eq rfl); (case c5 => decide); (case kB => exact locs rfl); (case c2 => exact rfl); (case c3 => exact rfl); (case c4 => exact rfl); k_whole; intro g' L' h' FG' F' N' B' X' T'; (try dsimp only); (try k_lift B'); (try k_fold))
  k_steps
  all_goals first
    | exact err _ _ _ _ _ (by assumption) (by assumption) (by assumption)
    | exact err _ _ _ _ _ (by assumption) (raised_drop (by assumption) (fun p hp => List.Mem.tail _ hp)) (by assumption)
    | (exfalso; simp_all; done)
theorem parse229_bad2 {x S p0 p1 p2 p4 M host : Str} {r port : Int} {t tt th ti : Tok} {pa : Addr} (hx : x.length ≤ 2000) (h1 : Txt.slice x none (some 3) = Str.ofString "229") (h2 : Txt.find x (Str.ofString "(") = 7) (h3 : Txt.find3 x (Str.ofString ")") (7 + 1) = r) (hr : 9 ≤ r) (hr2 : r ≤ x.length) (h4 : Txt.item x (7 + 1) = M) {ys : List Str} (h5 : Txt.item x (r - 1) = M) (hM : (M.length == 0) = false) (h6 : Txt.slice x (some (7 + 1)) (some r) = S) (hS : S.length ≤ 2000) (h7 : Txt.split S M = ys) (hys : ys.length = 6)
   (B : Below A₀ base outer h₀) (F : Fr h₀ L s.heap m) (X : (hd.heap_39 w.params).In h₀) (N : News h₀ L s.heap news) (T : Top hd.view_39 (looseW hd.view_39 []) mean mg mb h₀) (hk : cs.kind = .function)
   (hdp : dp + 1 < recursionLimit) (hun : un + 8 < cLine)
   (err : ∀ g e ta h' tk', Fr h₀ L g m → RaisedS base g (envX cn cs L a ccd cl :: outer) e (.ref 56) ta [.str x t] news h' → g.UpToSlots h' → E (.ref e) { s with heap := h', toks := tk' }) :
   wpAny (model Challenge.rw_pd0171_01.row.prog w) (ktrTop dp un gd cn cs L a ccd cl outer) (call (.ref 65) [.str x t, .ref pa]) Q E s := by
  revert X
  k_fill
  intro X
  have NH : HidN h₀ L s.heap [] := HidN.none
  have NR : RestN h₀ L s.heap [] news := RestN.all N
  refine wpAny_call ?_
  k_dflt (refine' code_def ?k1 ?k2 ?k3 ?k4 ?k5 ?kA ?kF ?kK ?k6 ?k7 ?k8 ?k9 ?kB ?_ ?c2 ?c3 ?c4 ?c5; (case kA => exact rfl); (case kF => exact rfl); (case kK => assumption); (case k1 => k_asm); (case k2 => k_asm); (case k3 => k_asm); (case k4 => k_asm); (case k5 => k_asm); (case k6 => k_is); (case k7 => k_is); (case k8 => ktr_room); (case k9 => exact BindsTo.of_eq rfl); (case c5 => decide); (case kB => exact locs rfl); (case c2 => exact rfl); (case c3 => exact rfl); (case c4 => exact rfl); k_whole; intro g' L' h' FG' F' N' B' X' T'; (try dsimp only); (try k_lift B'); (try k_fold))
  k_steps
  all_goals first
    | exact err _ _ _ _ _ (by assumption) (by assumption) (by assumption)
    | exact err _ _ _ _ _ (by assumption) (raised_drop (by assumption) (fun p hp => List.Mem.tail _ hp)) (by assumption)
    | (exfalso; simp_all; done)
end
end
section
open PySem PySem.W PyProof.Rows PySem.Calls PySem.Spec
set_option maxRecDepth 100000
set_option maxHeartbeats 0
theorem lines_C6_1 : True := by
  k_with_none
  k_with "eval Constant int" => (refine flat_int ?_)
  k_with "eval Constant str" => (refine flat_str ?_)
  k_with "call builtin:issubclass" => (k_here; k_dflt (refine' issub_call ?kqk1 ?_; (case kqk1 => exact News.get (by k_asm) (by k_mem)); k_whole); intro tk)
  k_with "call builtin:str.find" => (k_here; k_dflt (first | (refine' s_find ?kqz ?_; (case kqz => assumption); k_whole) | (refine' s_find3 ?kqz ?_; (case kqz => assumption); k_whole)); intro t')
  k_with "subscriptTail" => (k_here; (with_reducible show wpAny _ _ (subscriptTail _ _ (Value.str _ _) (Value.int _ _)) _ _ _); k_dflt (refine' s_item ?kqz0 ?kqz1 ?kqz2 ?kqz ?_ ?kqy1 ?kqy2; (case kqz => assumption); (case kqz0 => omega); (case kqz1 => omega); (case kqz2 => omega); (case kqy1 => with_unfolding_all rfl); (case kqy2 => (intro _; with_unfolding_all rfl)); k_whole); intro t' k')
  k_with "subscriptTail Name Slice str ref" => (k_here; k_dflt (first | (refine' s_slice_ns ?kqf ?kqn ?kqx ?kqz ?_ ?kqy1 ?kqy2; (case kqz => assumption); (case kqf => k_asm); (case kqn => k_asm); (case kqx => omega); (case kqy1 => with_unfolding_all rfl); (case kqy2 => (intro _; with_unfolding_all rfl)); k_whole) | (refine' s_slice_ss ?kqf ?kqn ?kqx ?kqz ?_ ?kqy1 ?kqy2; (case kqz => assumption); (case kqf => k_asm); (case kqn => k_asm); (case kqx => omega); (case kqy1 => with_unfolding_all rfl); (case kqy2 => (intro _; with_unfolding_all rfl)); k_whole)); intro h' t' k' F' N'; (try k_sweep))
  k_with "call builtin:str.split" => (k_here; k_dflt (refine' s_split ?kqf ?kqn ?kqy ?kqx ?kqz ?_; (case kqz => assumption); (case kqf => k_asm); (case kqn => k_asm); (case kqy => first | rfl | assumption); (case kqx => omega); k_whole); intro D' vs' h' k' S' F' N' l1; (try k_lt l1); (try (obtain ⟨t0', t1', t2', t3', t4', e'⟩ := strs5 S'; subst e')); (try k_sweep))
  k_with "subscriptTail Name BinOp str int" => (k_here; (with_reducible show wpAny _ _ (subscriptTail _ _ (Value.str _ _) (Value.int _ _)) _ _ _); k_dflt (refine' s_item ?kqz0 ?kqz1 ?kqz2 ?kqz ?_ ?kqy1 ?kqy2; (case kqz => assumption); (case kqz0 => omega); (case kqz1 => omega); (case kqz2 => omega); (case kqy1 => with_unfolding_all rfl); (case kqy2 => (intro _; with_unfolding_all rfl)); k_whole); intro t' k')
  k_with "subscriptTail Name Name str int" => (k_here; (with_reducible show wpAny _ _ (subscriptTail _ _ (Value.str _ _) (Value.int _ _)) _ _ _); k_dflt (refine' s_item ?kqz0 ?kqz1 ?kqz2 ?kqz ?_ ?kqy1 ?kqy2; (case kqz => assumption); (case kqz0 => omega); (case kqz1 => omega); (case kqz2 => omega); (case kqy1 => with_unfolding_all rfl); (case kqy2 => (intro _; with_unfolding_all rfl)); k_whole); intro t' k')
  k_with "subscriptTail Name Constant str int" => (k_here; (with_reducible show wpAny _ _ (subscriptTail _ _ (Value.str _ _) (Value.int _ _)) _ _ _); k_dflt (refine' s_item ?kqz0 ?kqz1 ?kqz2 ?kqz ?_ ?kqy1 ?kqy2; (case kqz => assumption); (case kqz0 => omega); (case kqz1 => omega); (case kqz2 => omega); (case kqy1 => with_unfolding_all rfl); (case kqy2 => (intro _; with_unfolding_all rfl)); k_whole); intro t' k')
  k_with "subscriptTail Name Constant ref int" => (k_here; k_dflt (refine' item_tupleT ?kqt ?kqa ?kqb ?kqc ?kqd ?_; (case kqt => exact tup_kept (by assumption) (by k_asm)); (case kqa => decide); (case kqb => decide); (case kqc => rfl); (case kqd => rfl); k_whole))
  k_with "subscriptTail" => (k_here; k_dflt (refine' item_tupleT ?kqt ?kqa ?kqb ?kqc ?kqd ?_; (case kqt => exact tup_kept (by assumption) (by k_asm)); (case kqa => decide); (case kqb => decide); (case kqc => rfl); (case kqd => rfl); k_whole))
  k_with "binaryOp Add str str" => (k_here; k_dflt (refine' s_add ?kqz ?_; (case kqz => omega); k_whole); intro t' k')
  k_with "exec While Compare cons nil" => (k_here; k_dflt (refine' while_mark ?kqm ?kqF ?kqN ?kqs ?kqt ?kqe; (case kqm => assumption); (case kqF => k_asm); (case kqN => k_asm); (case kqe => passes_own)))
  trivial
section
variable {w : World} {mean : ExcName → Option Value} {mg mb : Str → Option Value} {dp un : Nat} {gd : Option (List Code)} {cn : Str} {cs : Scope} {a : Addr} {ccd : Value} {cl : List (Str × Addr)} {outer : List Env} {A₀ : Around} {base h₀ : Heap} {L : Addr} {m : Str → Option Value} {news : List (Addr × Obj)} {s : Shared} {Q E : Value → Shared → Prop}
/-- what holds between the turns of parse257 -/
def P257 (x way : Str) (m₀ : Str → Option Value) (nn : Nat) (m : Str → Option Value) (news : List (Addr × Obj)) : Prop :=
  news = [] ∧ ∃ (d : Str) (todo : List Nat) (ti td : Tok), nn = todo.length + 1 ∧ FrameIs [(Str.ofString "i", .int (5 + ((StrLaws.dbl 34 d.cps.toList).length : Int)) ti), (Str.ofString "dirname", .str d td)] [Str.ofString "i", Str.ofString "dirname", Str.ofString "c"] m₀ m ∧ d.cps.toList ++ todo = way.cps.toList
theorem parse257_spec {x way : Str} {t : Tok} {pre5 tl : List Nat} (hx : x.length ≤ 2000) (hw : way.length ≤ 1000) (hx2 : x.cps.toList = pre5 ++ StrLaws.dbl 34 way.cps.toList ++ 34 :: 32 :: tl) (hpre : pre5.length = 5) (h1 : Txt.slice x none (some 3) = Str.ofString "257") (h2 : Txt.slice x (some 3) (some 5) = Str.ofString " \"")
   (B : Below A₀ base outer h₀) (F : Fr h₀ L s.heap m) (X : (hd.heap_39 w.params).In h₀) (N : News h₀ L s.heap news) (T : Top hd.view_39 (looseW hd.view_39 []) mean mg mb h₀) (hk : cs.kind = .function)
   (hdp : dp + 1 < recursionLimit) (hun : un + 8 < cLine)
   (ret : ∀ t' h' tk', Fr h₀ L h' m → News h₀ L h' news → Q (.str way t') { s with heap := h', toks := tk' }) :
   wpAny (model Challenge.rw_pd0171_01.row.prog w) (ktrTop dp un gd cn cs L a ccd cl outer) (call (.ref 72) [.str x t]) Q E s := by
  revert X
  k_fill
  intro X
  have NH : HidN h₀ L s.heap [] := HidN.none
  have NR : RestN h₀ L s.heap [] news := RestN.all N
  have hmark : WMark (P257 x way) := ⟨⟩
  refine wpAny_call ?_
  k_dflt cell_enter
  k_steps
  case kqs =>
    refine ⟨_, rfl, Str.ofString "", way.cps.toList, _, _, rfl, ⟨List.forall_mem_cons.mpr ⟨(by with_unfolding_all rfl), List.forall_mem_cons.mpr ⟨(by with_unfolding_all rfl), List.forall_mem_nil _⟩⟩, ?_⟩, rfl⟩
    exact fun _ _ _ => rfl
  case kqt =>
    rintro n m₁ news₁ h₁ tk₁ F₁ N₁ ⟨rfl, d, todo, ti, td, rfl, hfr, hd⟩
    have F₂ := hfr.fr F₁
    have hfr2 := hfr.2
    have hdl := pre_len hd
    have hq : (Str.ofString "\"").length = 1 := by decide +kernel
    generalize hi : (5 + ((StrLaws.dbl 34 d.cps.toList).length : Int)) = i at *
    have hat := p257_at hx2 hpre hd hi
    have hb1 : 0 ≤ i := by omega
    rcases todo with _ | ⟨c, r⟩
    · have e0 := hat 0
      have e1 := hat 1
      simp only [StrLaws.dbl, List.nil_append, List.getElem?_cons_zero, List.getElem?_cons_succ, Int.ofNat_zero, Int.natCast_zero, Int.add_zero, Int.natCast_one] at e0 e1
      have hi0 : Txt.item x i = ⟨#[34]⟩ := item_at hb1 e0
      have hi1 : Txt.item x (i + 1) = ⟨#[32]⟩ := item_at (by omega) e1
      have hb2 := getE_len (by omega) e1
      clear F₁ hat e0 e1
      try k_fold
      k_steps
      all_goals (dsimp only; (try unfold WhileStep2); (try dsimp only); k_steps)
      have e := str_done hd
      subst e
      exact ret _ _ _ (by k_asm) (by assumption)
    · have e0 := hat 0
      by_cases hc : c = 34
      · subst hc
        have e1 := hat 1
        simp only [StrLaws.dbl, if_true, List.cons_append, List.getElem?_cons_zero, List.getElem?_cons_succ, Int.ofNat_zero, Int.natCast_zero, Int.add_zero, Int.natCast_one] at e0 e1
        have hi0 : Txt.item x i = ⟨#[34]⟩ := item_at hb1 e0
        have hi1 : Txt.item x (i + 1) = ⟨#[34]⟩ := item_at (by omega) e1
        have hb2 := getE_len (by omega) e1
        have hcl : (⟨#[34]⟩ : Str).length = 1 := rfl
        have hlen : 5 + ((StrLaws.dbl 34 (d ++ (⟨#[34]⟩ : Str)).cps.toList).length : Int) = i + 1 + 1 := by
          rw [snoc_cps, StrLaws.dbl_append, List.length_append, ← hi]
          simp [StrLaws.dbl]
          omega
        clear F₁ hat e0 e1
        try k_fold
        k_steps
        refine whileStep_next (n' := r.length + 1) (by assumption) (by assumption) (by simp) ⟨rfl, d ++ ⟨#[34]⟩, r, _, _, rfl, ⟨List.forall_mem_cons.mpr ⟨(by rw [hlen]; with_unfolding_all rfl), List.forall_mem_cons.mpr ⟨(by with_unfolding_all rfl), List.forall_mem_nil _⟩⟩, ?_⟩, ?_⟩
        · intro z hz hs
          have z1 : z ≠ Str.ofString "i" := hz _ (.head _)
          have z2 : z ≠ Str.ofString "dirname" := hz _ (.tail _ (.head _))
          have z3 : z ≠ Str.ofString "c" := by
            intro e; subst e; revert hs; decide +kernel
          simp only [kstB, if_neg z1, if_neg z2, if_neg z3, hs, Bool.false_eq_true, if_false]
        · rw [snoc_cps]; simpa [List.append_assoc] using hd
      · simp only [StrLaws.dbl, if_neg hc, List.cons_append, List.getElem?_cons_zero, Int.ofNat_zero, Int.natCast_zero, Int.add_zero] at e0
        have hi0 : Txt.item x i = ⟨#[c]⟩ := item_at hb1 e0
        have hb2 := getE_len (by omega) e0
        have hcl : (⟨#[c]⟩ : Str).length = 1 := rfl
        have hlen : 5 + ((StrLaws.dbl 34 (d ++ (⟨#[c]⟩ : Str)).cps.toList).length : Int) = i + 1 := by
          rw [snoc_cps, StrLaws.dbl_append, List.length_append, ← hi]
          simp [StrLaws.dbl, hc]
          omega
        have hcq : ((⟨#[c]⟩ : Str) == Str.ofString "\"") = false := by
          rw [show Str.ofString "\"" = ⟨#[34]⟩ by decide +kernel]
          simp [hc]
        clear F₁ hat e0
        try k_fold
        k_steps
        refine whileStep_next (n' := r.length + 1) (by assumption) (by assumption) (by simp) ⟨rfl, d ++ ⟨#[c]⟩, r, _, _, rfl, ⟨List.forall_mem_cons.mpr ⟨(by rw [hlen]; with_unfolding_all rfl), List.forall_mem_cons.mpr ⟨(by with_unfolding_all rfl), List.forall_mem_nil _⟩⟩, ?_⟩, ?_⟩
        · intro z hz hs
          have z1 : z ≠ Str.ofString "i" := hz _ (.head _)
          have z2 : z ≠ Str.ofString "dirname" := hz _ (.tail _ (.head _))
          have z3 : z ≠ Str.ofString "c" := by
            intro e; subst e; revert hs; decide +kernel
          simp only [kstB, if_neg z1, if_neg z2, if_neg z3, hs, Bool.false_eq_true, if_false]
        · rw [snoc_cps]; simpa [List.append_assoc] using hd
end
end
section
open PySem PySem.W PyProof.Rows PySem.Calls PySem.Spec PyProof.V
set_option maxRecDepth 100000
set_option maxHeartbeats 400000
section
variable {prog : Program} {w : World} {A : Around} {E : Value → Shared → Prop} {s : Shared} {h₀ : Heap} {L D D' : Addr} {news tl : List (Addr × Obj)} {vs : List Value} {n n' : Nat} {qs : List Int} {Q : Value → Shared → Prop} {a b : Int} {c : Bool} {t u : Tok} {value slice : PySem.Expr} {x y : Value}
theorem l_neInts (N : News h₀ L s.heap news) (hm : (D, listOf vs.toArray n) ∈ news) (hm' : (D', listOf ([] : List Value).toArray n') ∈ news) (hI : IntsAre vs qs) (hu : A.units + 64 < cLine) {b : Bool} (hb : qs.isEmpty = b)
    (h : Q (.bool (!b)) s) : wpAny (model prog w) A (compareOp .NotEq (.ref D) (.ref D')) Q E s := by
  refine ke_ne_ints (l_is N hm) (l_is N hm') hI .nil hu ?_
  rw [← hb] at h
  cases qs <;> simpa using h
theorem l_tup0 (N : News h₀ L s.heap news) (hm : (D, ({ cls := .type "tuple", data := .seq #[x, y] } : Obj)) ∈ news) (h : Q x s)
    (hs : subscripted slice false (.ref D) (.int 0 u) = operate [.ref D, .int 0 u] (getItem (.ref D) (.int 0 u)) := by with_unfolding_all rfl) : wpAny (model prog w) A (subscriptTail value slice (.ref D) (.int 0 u)) Q E s :=
  item_tupleT (l := [x, y]) (by exact ⟨_, (N _ hm).1, rfl, 0, rfl⟩) (by decide) (by decide) rfl rfl h hs
theorem s_gtI (hf : decide (b < a) = c) (h : Q (.bool c) s) : wpAny (model prog w) A (compareOp .Gt (.int a t) (.int b u)) Q E s := gt_int (by rw [hf]; exact h)
end
/-- what normpath gives for a text -/
structure NormIs (x y : Str) : Prop where
  lx : x.length ≤ 1000
  l0 : 0 < x.length
  ly : y.length ≤ 1000
  ex : ∃ z, rootP x = (Str.ofString "/", z) ∧ z.length ≤ 1000 ∧ Str.ofString "/" ++ Str.join (Str.ofString "/") (normC (Txt.split z (Str.ofString "/"))) = y
structure P257Is (x way : Str) : Prop where
  lx : x.length ≤ 2000
  lw : way.length ≤ 1000
  h1 : Txt.slice x none (some 3) = Str.ofString "257"
  h2 : Txt.slice x (some 3) (some 5) = Str.ofString " \""
  ex : ∃ pre5 tl, x.cps.toList = pre5 ++ StrLaws.dbl 34 way.cps.toList ++ 34 :: 32 :: tl ∧ pre5.length = 5
structure P229At (x M : Str) (r : Int) : Prop where
  lx : x.length ≤ 2000
  h1 : Txt.slice x none (some 3) = Str.ofString "229"
  h2 : Txt.find x (Str.ofString "(") = 7
  h3 : Txt.find3 x (Str.ofString ")") (7 + 1) = r
  hr : 9 ≤ r
  hr2 : r ≤ x.length
  h4 : Txt.item x (7 + 1) = M
structure P229Ok (x : Str) (port : Int) : Prop where
  ex : ∃ S p0 p1 p2 p4 M r, P229At x M r ∧ Txt.item x (r - 1) = M ∧ (M.length == 0) = false ∧ Txt.slice x (some (7 + 1)) (some r) = S ∧ S.length ≤ 2000 ∧ Txt.split S M = [p0, p1, p2, Str.ofString (toString port), p4]
  hp : 0 ≤ port
  hp2 : port < 10 ^ 10
structure P229Bad (x : Str) : Prop where
  ex : ∃ M r, P229At x M r ∧ ((∃ M2, Txt.item x (r - 1) = M2 ∧ (M != M2) = true) ∨ (Txt.item x (r - 1) = M ∧ (M.length == 0) = false ∧ ∃ S ys, Txt.slice x (some (7 + 1)) (some r) = S ∧ S.length ≤ 2000 ∧ Txt.split S M = ys ∧ ys.length = 6))
structure P229No (x : Str) : Prop where
  lx : x.length ≤ 2000
  h1 : Txt.slice x none (some 3) = Str.ofString "421"
section
variable {w : World} {mean : ExcName → Option Value} {mg mb : Str → Option Value} {dp un : Nat} {gd : Option (List Code)} {cn : Str} {cs : Scope} {a : Addr} {ccd : Value} {cl : List (Str × Addr)} {outer : List Env} {A₀ : Around} {base h₀ : Heap} {L : Addr} {m : Str → Option Value} {news : List (Addr × Obj)} {s : Shared} {Q E : Value → Shared → Prop} {hnd : Option Value}
theorem norm_as {x y : Str} {t : Tok} (hi : NormIs x y)
   (B : Below A₀ base outer h₀) (F : Fr h₀ L s.heap m) (X : (hd.heap_39 w.params).In h₀) (N : News h₀ L s.heap news) (T : Top hd.view_39 (looseW hd.view_39 []) mean mg mb h₀) (hk : cs.kind = .function)
   (hdp : dp + 3 < recursionLimit) (hun : un + 24 < cLine)
   (ret : ∀ t' h' tk', Fr h₀ L h' m → News h₀ L h' news → Q (.str y t') { s with heap := h', toks := tk' }) :
   wpAny (model Challenge.rw_pd0171_01.row.prog w) (ktrTop dp un gd cn cs L a ccd cl outer) (call (.ref 215) [.str x t]) Q E s := by
  obtain ⟨lx, l0, _, z, hr, hz, rfl⟩ := hi
  exact normpath_spec lx l0 hr hz B F X N T hk hdp hun ret
theorem p257_as {x way : Str} {t : Tok} (hi : P257Is x way)
   (B : Below A₀ base outer h₀) (F : Fr h₀ L s.heap m) (X : (hd.heap_39 w.params).In h₀) (N : News h₀ L s.heap news) (T : Top hd.view_39 (looseW hd.view_39 []) mean mg mb h₀) (hk : cs.kind = .function)
   (hdp : dp + 1 < recursionLimit) (hun : un + 8 < cLine)
   (ret : ∀ t' h' tk', Fr h₀ L h' m → News h₀ L h' news → Q (.str way t') { s with heap := h', toks := tk' }) :
   wpAny (model Challenge.rw_pd0171_01.row.prog w) (ktrTop dp un gd cn cs L a ccd cl outer) (call (.ref 72) [.str x t]) Q E s := by
  obtain ⟨lx, lw, h1, h2, pre5, tl, hx2, hpre⟩ := hi
  exact parse257_spec lx lw hx2 hpre h1 h2 B F X N T hk hdp hun ret
theorem p229ok_as {x host : Str} {port : Int} {t th ti : Tok} {pa : Addr} (hi : P229Ok x port)
   (B : Below A₀ base outer h₀) (F : Fr h₀ L s.heap m) (X : (hd.heap_39 w.params).In h₀) (N : News h₀ L s.heap news) (T : Top hd.view_39 (looseW hd.view_39 []) mean mg mb h₀) (hk : cs.kind = .function)
   (hdp : dp + 1 < recursionLimit) (hun : un + 8 < cLine) (hpa : (pa, ({ cls := .type "tuple", data := .seq #[.str host th, .int 21 ti] } : Obj)) ∈ news)
   (ret : ∀ r t' h' tk', (∀ p ∈ news, p.1 ≠ r) → Fr h₀ L h' m → News h₀ L h' ((r, { cls := .type "tuple", data := .seq #[.str host th, .int port t'] }) :: news) → Q (.ref r) { s with heap := h', toks := tk' }) :
   wpAny (model Challenge.rw_pd0171_01.row.prog w) (ktrTop dp un gd cn cs L a ccd cl outer) (call (.ref 65) [.str x t, .ref pa]) Q E s := by
  obtain ⟨⟨S, p0, p1, p2, p4, M, r, ⟨hx, h1, h2, h3, hr, hr2, h4⟩, h5, hM, h6, hS, h7⟩, hp, hp2⟩ := hi
  exact parse229_ok (tt := t) hx h1 h2 h3 hr hr2 h4 h5 hM h6 hS h7 hp hp2 B F X N T hk hdp hun (N _ hpa).1 ret
theorem p229no_as {x : Str} {t : Tok} {pa : Addr} (hi : P229No x)
   (B : Below A₀ base outer h₀) (F : Fr h₀ L s.heap m) (X : (hd.heap_39 w.params).In h₀) (N : News h₀ L s.heap news) (T : Top hd.view_39 (looseW hd.view_39 []) mean mg mb h₀) (hk : cs.kind = .function)
   (hdp : dp + 1 < recursionLimit) (hun : un + 8 < cLine)
   (err : ∀ g e ta h' tk', Fr h₀ L g m → RaisedS base g (envX cn cs L a ccd cl :: outer) e (.ref 44) ta [.str x t] news h' → g.UpToSlots h' → E (.ref e) { s with heap := h', toks := tk' }) :
   wpAny (model Challenge.rw_pd0171_01.row.prog w) (ktrTop dp un gd cn cs L a ccd cl outer) (call (.ref 65) [.str x t, .ref pa]) Q E s :=
  parse229_421 hi.lx hi.h1 B F X N T hk hdp hun err
theorem p229bad_as {x : Str} {t : Tok} {pa : Addr} (hi : P229Bad x)
   (B : Below A₀ base outer h₀) (F : Fr h₀ L s.heap m) (X : (hd.heap_39 w.params).In h₀) (N : News h₀ L s.heap news) (T : Top hd.view_39 (looseW hd.view_39 []) mean mg mb h₀) (hk : cs.kind = .function)
   (hdp : dp + 1 < recursionLimit) (hun : un + 8 < cLine)
   (err : ∀ g e ta h' tk', Fr h₀ L g m → RaisedS base g (envX cn cs L a ccd cl :: outer) e (.ref 56) ta [.str x t] news h' → g.UpToSlots h' → E (.ref e) { s with heap := h', toks := tk' }) :
   wpAny (model Challenge.rw_pd0171_01.row.prog w) (ktrTop dp un gd cn cs L a ccd cl outer) (call (.ref 65) [.str x t, .ref pa]) Q E s := by
  obtain ⟨M, r, ⟨hx, h1, h2, h3, hr, hr2, h4⟩, ⟨M2, h5, hne⟩ | ⟨h5, hM, S, ys, h6, hS, h7, hys⟩⟩ := hi
  · exact parse229_bad1 (S := x) (p0 := x) (p1 := x) (p2 := x) (p4 := x) (host := x) (port := 0) (tt := t) (th := t) (ti := t) hx h1 h2 h3 hr hr2 h4 h5 hne B F X N T hk hdp hun err
  · exact parse229_bad2 (p0 := x) (p1 := x) (p2 := x) (p4 := x) (host := x) (port := 0) (tt := t) (th := t) (ti := t) hx h1 h2 h3 hr hr2 h4 h5 hM h6 hS h7 hys B F X N T hk hdp hun err
variable {lf : Addr} {n : Nat} {vs : List Value} {ns : List Int} {v : Int} {t : Tok} {g : Obj → List (Addr × Obj)}
theorem push_K (hlen : ns.length ≤ 3) (hI : IntsAre vs ns) (hH : HeapOk ns)
   (B : Below A₀ base outer h₀) (F : Fr h₀ L s.heap m) (X : (hd.heap_39 w.params).In h₀) (N : News h₀ L s.heap news) (U : UpdF lf (listOf vs.toArray n) news g) (T : Top hd.view_39 (looseW hd.view_39 []) mean mg mb h₀) (hk : cs.kind = .function)
   (hdp : dp + 2 < recursionLimit) (hun : un + 16 < cLine)
   (ret : ∀ vs' n' ns' h' tk', IntsAre vs' ns' → ns'.Perm (v :: ns) → HeapOk ns' → Fr h₀ L h' m → News h₀ L h' (g (listOf vs'.toArray n')) → Q .none { s with heap := h', toks := tk' }) :
   wpAny (model Challenge.rw_pd0171_01.row.prog w) (topH hnd dp un gd cn cs L a ccd cl outer) (call (.ref 79) [.ref lf, .int v t]) Q E s := by
  obtain ⟨rest, N1, hne, back⟩ := UpdF.front U N
  exact heappush_spec hlen hI hH B F X N1 T hk hdp hun hne fun vs' n' ns' h' tk' a1 a2 a3 a4 a5 => ret vs' n' ns' h' tk' a1 a2 a3 a4 (back _ _ a5)
theorem pop_K (hlen : 0 < ns.length) (hI : IntsAre vs ns) (hH : HeapOk ns)
   (B : Below A₀ base outer h₀) (F : Fr h₀ L s.heap m) (X : (hd.heap_39 w.params).In h₀) (N : News h₀ L s.heap news) (U : UpdF lf (listOf vs.toArray n) news g) (T : Top hd.view_39 (looseW hd.view_39 []) mean mg mb h₀) (hk : cs.kind = .function)
   (hdp : dp + 3 < recursionLimit) (hun : un + 24 < cLine)
   (ret : ∀ vs' n' ns' r t' h' tk', IntsAre vs' ns' → (r :: ns').Perm ns → HeapOk ns' → (∀ x ∈ ns, r ≤ x) → Fr h₀ L h' m → News h₀ L h' (g (listOf vs'.toArray n')) → Q (.int r t') { s with heap := h', toks := tk' }) :
   wpAny (model Challenge.rw_pd0171_01.row.prog w) (topH hnd dp un gd cn cs L a ccd cl outer) (call (.ref 86) [.ref lf]) Q E s := by
  obtain ⟨rest, N1, hne, back⟩ := UpdF.front U N
  exact heappop_spec hlen hI hH B F X N1 T hk hdp hun hne fun vs' n' ns' r t' h' tk' a1 a2 a3 a3' a4 a5 => ret vs' n' ns' r t' h' tk' a1 a2 a3 a3' a4 (back _ _ a5)
theorem pushpop_K (hlen : ns.length ≤ 3) (hI : IntsAre vs ns) (hH : HeapOk ns)
   (B : Below A₀ base outer h₀) (F : Fr h₀ L s.heap m) (X : (hd.heap_39 w.params).In h₀) (N : News h₀ L s.heap news) (U : UpdF lf (listOf vs.toArray n) news g) (T : Top hd.view_39 (looseW hd.view_39 []) mean mg mb h₀) (hk : cs.kind = .function)
   (hdp : dp + 3 < recursionLimit) (hun : un + 24 < cLine)
   (ret : ∀ vs' n' ns' r t' h' tk', IntsAre vs' ns' → (r :: ns').Perm (v :: ns) → HeapOk ns' → (∀ x ∈ v :: ns, r ≤ x) → Fr h₀ L h' m → News h₀ L h' (g (listOf vs'.toArray n')) → Q (.int r t') { s with heap := h', toks := tk' }) :
   wpAny (model Challenge.rw_pd0171_01.row.prog w) (ktrTop dp un gd cn cs L a ccd cl outer) (call (.ref 93) [.ref lf, .int v t]) Q E s := by
  obtain ⟨rest, N1, hne, back⟩ := UpdF.front U N
  exact heappushpop_spec hlen hI hH B F X N1 T hk hdp hun hne fun vs' n' ns' r t' h' tk' a1 a2 a3 a3' a4 a5 => ret vs' n' ns' r t' h' tk' a1 a2 a3 a3' a4 (back _ _ a5)
end
end
section
open PySem PySem.W PyProof.Rows PySem.Calls PySem.Spec PyProof.V
open Builtin Builtin.Str
set_option maxRecDepth 100000
set_option maxHeartbeats 1000000
/-- x with the first y struck by z -/
def replace1 (x y z : Str) : Str := glued z (partsBetween x (occurrences x y 0 x.length 1) y.length)
theorem gives_replace1 (x y z : Str) (t u v c : Tok) (ho : (occurrences x y 0 x.length 1).isEmpty = false) (hy : (y.length == 0) = false) (hu : u ≠ 0) (hv : v ≠ 0) (huv : u ≠ v) (hyz : (y == z) = false)
    (hl : tooLong (x.length + (occurrences x y 0 x.length 1).length * z.length) = false) :
    Gives («str.replace» ⟨[.str x t, .str y u, .str z v, .int 1 c], []⟩) (.str (replace1 x y z)) := by
  show Gives (if ((occurrences x y 0 x.length 1).isEmpty || (y.length == 0 && z.length == 0)) = true then (do rule "str.replace.nothing"; ret (.str x t)) else
          (do let same ← isSame (.str y u) (.str z v)
              if same = true then (do rule "str.replace.old-is-new"; ret (.str x t)) else
              if tooLong (x.length + (occurrences x y 0 x.length 1).length * z.length) = true then unsupported "str.replace:memory" else
              retStr (glued z (partsBetween x (occurrences x y 0 x.length 1) y.length)))) _
  rw [ho, hy]
  simp only [Bool.false_and, Bool.or_false, Bool.false_eq_true, if_false]
  rw [isSame_str_other y z u v (by simp [hu, hv]) (by simpa using huv) hyz, hl]
  exact .of_eq rfl
section
variable {prog : Program} {w : World} {A : Around} {E : Value → Shared → Prop} {s : Shared} {x y z r : Str} {t u v c : Tok} {Q : Value → Shared → Prop}
theorem s_replace1 (hr : replace1 x y z = r) (lr : r.length ≤ 100000) (ho : (occurrences x y 0 x.length 1).isEmpty = false) (hy : (y.length == 0) = false) (hu : u ≠ 0) (hv : v ≠ 0) (huv : u ≠ v) (hyz : (y == z) = false) (hx : x.length ≤ 2000) (hz : z.length ≤ 10)
    (h : ∀ t' k, Q (.str r t') { s with toks := k }) : wpAny (model prog w) A (call (.builtin "str.replace") [.str x t, .str y u, .str z v, .int 1 c]) Q E s := by
  subst hr
  have hl : tooLong (x.length + (occurrences x y 0 x.length 1).length * z.length) = false := by
    have h1 : (occurrences x y 0 x.length 1).length ≤ x.length + 1 := by
      have := StrLaws.occ_length_le x y 0 x.length 1
      omega
    have h2 : (occurrences x y 0 x.length 1).length * z.length ≤ (x.length + 1) * 10 := Nat.mul_le_mul h1 hz
    unfold tooLong sizeLine
    exact decide_eq_false (by omega)
  exact call_gives F.slot_str_replace (typeIs_str _ _ _) F.entry_str_replace (F.args_str_replace_4 _ _ _ _) (gives_replace1 x y z t u v c ho hy hu hv huv hyz hl) ⟨sizeLine_big lr, h _ _⟩
/-- the replacing of all, as an equation says it -/
theorem s_replace (hr : Txt.replace x y z = r) (hu : u ≠ 0) (hv : v ≠ 0) (huv : u ≠ v) (hyz : (y == z) = false) (hx : x.length ≤ 1000) (hz : z.length ≤ 14)
    (h : ∀ t' k, Q (.str r t') { s with toks := k }) : wpAny (model prog w) A (call (.builtin "str.replace") [.str x t, .str y u, .str z v]) Q E s := by
  subst hr
  exact SC.replaceW hu hv huv hyz (by omega) hz h
theorem s_addF (hx : 0 < x.length) (hy : 0 < y.length) (hz : x.length + y.length ≤ 100000) (h : Q (.str (x ++ y) s.toks) { s with toks := s.toks + 1 }) : wpAny (model prog w) A (binaryOp .Add (.str x t) (.str y u)) Q E s := by
  refine P.add_str ?_
  have h1 : (x.length == 0) = false := by simp; omega
  have h2 : (y.length == 0) = false := by simp; omega
  rw [h1, h2]
  simp only [Bool.false_eq_true, if_false]
  refine ⟨?_, h⟩
  rw [Str.length_append]
  exact sizeLine_big hz
theorem s_mul3F {k : Nat} (h : Q (.str ⟨#[k, k, k]⟩ s.toks) { s with toks := s.toks + 1 }) : wpAny (model prog w) A (binaryOp .Mult (.str ⟨#[k]⟩ t) (.int 3 u)) Q E s :=
  have hok : MulOk ⟨#[k]⟩ 3 := mulOk_one (by decide) (by decide)
  P.mul_str hok.1 hok.2.1 hok.2.2 (show (if (3 : Int) < 1 then Made.str Str.empty else if ((3 : Int) == 1 || (⟨#[k]⟩ : Str).length == 0) = true then Made.val (.str ⟨#[k]⟩ t) else Made.str ⟨#[k, k, k]⟩).post Q s from ⟨sizeLine_big (by simp [Str.length]), h⟩)
theorem s_mul4F {k : Nat} (h : Q (.str ⟨#[k, k, k, k]⟩ s.toks) { s with toks := s.toks + 1 }) : wpAny (model prog w) A (binaryOp .Mult (.str ⟨#[k]⟩ t) (.int 4 u)) Q E s :=
  have hok : MulOk ⟨#[k]⟩ 4 := mulOk_one (by decide) (by decide)
  P.mul_str hok.1 hok.2.1 hok.2.2 (show (if (4 : Int) < 1 then Made.str Str.empty else if ((4 : Int) == 1 || (⟨#[k]⟩ : Str).length == 0) = true then Made.val (.str ⟨#[k]⟩ t) else Made.str ⟨#[k, k, k, k]⟩).post Q s from ⟨sizeLine_big (by simp [Str.length]), h⟩)
end
end
section
open PySem PySem.W PyProof.Rows PySem.Calls PySem.Spec
set_option maxRecDepth 100000
set_option maxHeartbeats 0
theorem lines_C9_1 : True := by
  k_with_none
  k_with "eval Constant int" => (refine flat_int ?_)
  k_with "eval Constant str" => (refine flat_str ?_)
  k_with "call builtin:issubclass" => (k_here; k_dflt (refine' issub_call ?kqk1 ?_; (case kqk1 => exact News.get (by k_asm) (by k_mem)); k_whole); intro tk)
  k_with "callWith" => (k_here; (with_reducible show wpAny _ _ (callWith _ (Value.builtin _) (_ :: _) _ _) _ _ _); refine callWith_method1 ?_)
  trivial
theorem hold_it {p : Prop} (h : Hold p) : p := h
theorem FrameIs.frx {g h : Heap} {L : Addr} {x : Str} {v : Option Value} {ps : List (Str × Value)} {stored : List Str} {m₀ m : Str → Option Value} (H : FrameIs ps stored m₀ m) (F : Fr g L h (fun y => if y = x then v else m y)) :
    Fr g L h (fun y => if y = x then v else kstB (fun z => if stored.contains z then m z else m₀ z) ps y) := by
  have e : kstB (fun z => if stored.contains z then m z else m₀ z) ps = m := by
    funext z
    refine kstB_eq H.1 fun hz => ?_
    show (if stored.contains z then m z else m₀ z) = m z
    split
    · rfl
    · rename_i hs
      exact (H.2 z hz (Bool.eq_false_iff.mpr hs)).symm
  rw [e]
  exact F
theorem nst {stored : List Str} {z : Str} (h : stored.contains z = false) : ∀ y ∈ stored, z ≠ y := fun y hy e => by
  subst e
  have : stored.contains z = true := List.contains_iff_mem.mpr hy
  rw [h] at this
  cases this
theorem fmod_of {x : Int} {k : Int} (hk : 0 < k) : x.fmod k = x % k := Int.fmod_eq_emod_of_nonneg x (by omega)
theorem fdiv_of {x : Int} {k : Int} (hk : 0 < k) : x.fdiv k = x / k := Int.fdiv_eq_ediv_of_nonneg x (by omega)
theorem nat_of {x k : Int} (hk : 0 < k) : ∃ j : Nat, x % k = (j : Int) ∧ (j : Int) < k := ⟨(x % k).toNat, by have := Int.emod_nonneg x (b := k) (by omega); omega, by have := Int.emod_nonneg x (b := k) (by omega); have := Int.emod_lt_of_pos x hk; omega⟩
theorem off_of {ll : Addr} {tl : List (Addr × Obj)} (h : ∀ p ∈ tl, p.1 ≠ ll) : OwnOff tl [ll] := fun p hp b hb => by rw [List.mem_singleton.mp hb]; exact h p hp
abbrev dueStored : List Str := [Str.ofString "kind", Str.ofString "value", Str.ofString "place", Str.ofString "name", Str.ofString "names", Str.ofString "held", Str.ofString "x"]
abbrev duePs (ll lw lf lh ln : Addr) : List (Str × Value) := [(Str.ofString "names", .ref ln), (Str.ofString "held", .ref lh), (Str.ofString "log", .ref ll), (Str.ofString "files", .ref lf), (Str.ofString "ways", .ref lw)]
/-- due's state between the turns -/
structure DueS (ll lw lf : Addr) (ns : List Int) (m₀ : Str → Option Value) (i : Nat) (m : Str → Option Value) (lh ln : Addr) (vH vN vL : List Value) (nH nN : Nat) (tl : List (Addr × Obj)) (d : DS) : Prop where
  fr : FrameIs (duePs ll lw lf lh ln) dueStored m₀ m
  mh : (lh, listOf vH.toArray nH) ∈ tl
  mn : (ln, listOf vN.toArray nN) ∈ tl
  sn : StrsAre vN d.names
  hin : HeldIn tl vH d.held
  dl : DatAll tl vL d.log
  ne : ∀ p ∈ tl, p.1 ≠ ll
  ed : d = (ns.take i).foldl step d0
/-- the loop's lists that stay -/
structure DueC where
  (ll lw lf lnum : Addr)
  (vw vf vsN : List Value)
  (nw nf n : Nat)
abbrev DueC.rest (c : DueC) : List (Addr × Obj) := [(c.lw, listOf c.vw.toArray c.nw), (c.lf, listOf c.vf.toArray c.nf), (c.lnum, listOf c.vsN.toArray c.n)]
def DueJ (c : DueC) (ns : List Int) (m₀ : Str → Option Value) (i : Nat) (m : Str → Option Value) (nx : List (Addr × Obj)) : Prop :=
  ∃ lh ln vH vN vL nH nN nL tl d, nx = (c.ll, listOf vL.toArray nL) :: (c.rest ++ tl) ∧ DueS c.ll c.lw c.lf ns m₀ i m lh ln vH vN vL nH nN tl d
abbrev dueFr (m₀ m₁ : Str → Option Value) (ll lw lf lh ln : Addr) : Str → Option Value := kstB (fun z => if dueStored.contains z then m₁ z else m₀ z) (duePs ll lw lf lh ln)
theorem sub_last {α : Type} (l : List α) {i : α} {tl : List α} : ∀ p ∈ l ++ (i :: tl), p ∈ (l ++ tl) ++ [i] := fun p hp =>
  (List.mem_append.mp hp).elim (fun h => List.mem_append.mpr (.inl (List.mem_append.mpr (.inl h)))) fun h =>
    (List.mem_cons.mp h).elim (fun e => List.mem_append.mpr (.inr (e ▸ .head _))) fun h => List.mem_append.mpr (.inl (List.mem_append.mpr (.inr h)))
theorem ne_fst {l tl : List (Addr × Obj)} {It : Addr} (h : ∀ p ∈ l ++ tl, p.1 ≠ It) : ∀ a ∈ l.map (·.1), a ≠ It := fun a ha e => by
  obtain ⟨p, hp, rfl⟩ := List.mem_map.mp ha
  exact h p (List.mem_append.mpr (.inl hp)) e
theorem nI_nat {a b c d It : Addr} (h : ∀ p ∈ [a, b, c, d], p ≠ It) : @Ne Nat a It ∧ @Ne Nat b It ∧ @Ne Nat c It ∧ @Ne Nat d It := ⟨h _ (.head _), h _ (.tail _ (.head _)), h _ (.tail _ (.tail _ (.head _))), h _ (.tail _ (.tail _ (.tail _ (.head _))))⟩
theorem dueZ {z : Str} (hs : dueStored.contains z = false) : z ≠ Str.ofString "kind" ∧ z ≠ Str.ofString "value" ∧ z ≠ Str.ofString "place" ∧ z ≠ Str.ofString "name" ∧ z ≠ Str.ofString "names" ∧ z ≠ Str.ofString "held" ∧ z ≠ Str.ofString "x" := by
  have h := nst hs
  exact ⟨h _ (.head _), h _ (.tail _ (.head _)), h _ (.tail _ (.tail _ (.head _))), h _ (.tail _ (.tail _ (.tail _ (.head _)))), h _ (.tail _ (.tail _ (.tail _ (.tail _ (.head _))))), h _ (.tail _ (.tail _ (.tail _ (.tail _ (.tail _ (.head _)))))), h _ (.tail _ (.tail _ (.tail _ (.tail _ (.tail _ (.tail _ (.head _)))))))⟩
theorem due_base {z : Str} {m₀ m₁ : Str → Option Value} {ll lw lf lh ln ll2 lw2 lf2 lh2 ln2 : Addr} (hz : ∀ p ∈ duePs ll2 lw2 lf2 lh2 ln2, z ≠ p.1) (hs : dueStored.contains z = false) : dueFr m₀ m₁ ll lw lf lh ln z = m₀ z := by
  have h1 := hz _ (.head _)
  have h2 := hz _ (.tail _ (.head _))
  have h3 := hz _ (.tail _ (.tail _ (.head _)))
  have h4 := hz _ (.tail _ (.tail _ (.tail _ (.head _))))
  have h5 := hz _ (.tail _ (.tail _ (.tail _ (.tail _ (.head _)))))
  simp only [dueFr, duePs, kstB, if_neg h1, if_neg h2, if_neg h3, if_neg h4, if_neg h5, hs, Bool.false_eq_true, if_false]
section
variable {prog : Program} {w : World} {A : Around} {E : Value → Shared → Prop} {s : Shared} {env : Env} {body : List Stmt} {Q : Flow → Shared → Prop}
theorem due_loop {iter : PySem.Expr} {px pos : Pos} {g₀ : Heap} {m₀ : Str → Option Value} {ll lh0 ln0 D lw lf lnum : Addr} {oD : Obj} {vw vf vsN : List Value} {nw nf n : Nat} {ns : List Int} (hI : IntsAre vsN ns)
    (hh : A.handled = none) (hx : env.kindOf (Str.ofString "x") = some .local) (hp : (env.scope.kind == .class || (env.scope.kind == .module && env.locals != env.globals)) = false)
    (F : Fr g₀ env.locals s.heap m₀) (N : News g₀ env.locals s.heap [(ln0, listOf #[] 0), (ll, listOf #[] 0), (lh0, listOf #[] 0), (D, oD), (lw, listOf vw.toArray nw), (lf, listOf vf.toArray nf), (lnum, listOf vsN.toArray n)])
    (q1 : ln0 ≠ ll) (q2 : lh0 ≠ ll) (hm0 : ∀ p ∈ duePs ll lw lf lh0 ln0, m₀ p.1 = some p.2)
    (hit : ∀ Q' : Value → Shared → Prop, Q' (.ref lnum) s → wpAny (model prog w) A (eval iter env) Q' E s)
    (turn : Hold (∀ mz i x t lh ln vH vN vL nH nN nL tl d m₁ h tk It oI, ns[i]? = some x → DueS ll lw lf ns mz i m₁ lh ln vH vN vL nH nN tl d → (∀ p ∈ tl, p.1 ≠ It) → (∀ p ∈ [ll, lw, lf, lnum], p ≠ It) →
      Fr g₀ env.locals h (fun y => if y = Str.ofString "x" then some (.int x t) else dueFr mz m₁ ll lw lf lh ln y) →
      News g₀ env.locals h ((ll, listOf vL.toArray nL) :: (lw, listOf vw.toArray nw) :: (lf, listOf vf.toArray nf) :: (lnum, listOf vsN.toArray n) :: (It, oI) :: tl) →
      wpAny (model prog w) A (execs body env) (GEnd (fun g => g = g₀) env.locals lnum It oI (listOf vsN.toArray n) (DueJ ⟨ll, lw, lf, lnum, vw, vf, vsN, nw, nf, n⟩ ns mz (i + 1)) s Q) E { s with heap := h, toks := tk }))
    (done : Hold (∀ mz lh ln vH vN vL nH nN nL tl d m₁ h tk, DueS ll lw lf ns mz ns.length m₁ lh ln vH vN vL nH nN tl d → Fr g₀ env.locals h (dueFr mz m₁ ll lw lf lh ln) →
      News g₀ env.locals h ((ll, listOf vL.toArray nL) :: (lw, listOf vw.toArray nw) :: (lf, listOf vf.toArray nf) :: (lnum, listOf vsN.toArray n) :: tl) → Q .next { s with heap := h, toks := tk }))
    (hs : ∀ x, foldedSetIterable iter env x = pure x := by intro _; rfl)
    (hE : PassesOwn (model prog w) A env E := by passes_own) :
    wpAny (model prog w) A (exec (.For (.Name (Str.ofString "x") px) iter body [] pos) env) Q E s := by
  have N2 : News g₀ env.locals s.heap ((ll, listOf #[] 0) :: ([(lw, listOf vw.toArray nw), (lf, listOf vf.toArray nf), (lnum, listOf vsN.toArray n)] ++ [(ln0, listOf #[] 0), (lh0, listOf #[] 0)])) :=
    List.forall_mem_cons.mpr ⟨N _ (.tail _ (.head _)), List.forall_mem_append.mpr ⟨fun p hp => N p (.tail _ (.tail _ (.tail _ (.tail _ hp)))), List.forall_mem_cons.mpr ⟨N _ (.head _), List.forall_mem_cons.mpr ⟨N _ (.tail _ (.tail _ (.head _))), List.forall_mem_nil _⟩⟩⟩⟩
  refine loop_ground (G := fun g => g = g₀) (l := lnum) (vs := vsN) (nn := n) (DueJ ⟨ll, lw, lf, lnum, vw, vf, vsN, nw, nf, n⟩ ns m₀) hh hx hp F N2 (.tail _ (.tail _ (.tail _ (.head _)))) rfl ?_ hit ?_ ?_ hs hE
  · refine ⟨lh0, ln0, [], [], [], 0, 0, 0, [(ln0, listOf #[] 0), (lh0, listOf #[] 0)], d0, rfl, ⟨⟨hm0, fun _ _ _ => rfl⟩, .tail _ (.head _), .head _, .nil, .nil, .nil, ?_, rfl⟩⟩
    exact List.forall_mem_cons.mpr ⟨q1, List.forall_mem_cons.mpr ⟨q2, List.forall_mem_nil _⟩⟩
  · rintro i v g m₁ nx h tk It oI hv rfl ⟨lh, ln, vH, vN, vL, nH, nN, nL, tl, d, rfl, hS⟩ hl hne F1 N1
    obtain ⟨x, t, rfl, hxi⟩ := IntsAre.at hI i v hv
    exact turn m₀ i x t lh ln vH vN vL nH nN nL tl d m₁ h tk It oI hxi hS (fun p hp => hne p (List.mem_append_right [(ll, listOf vL.toArray nL), (lw, listOf vw.toArray nw), (lf, listOf vf.toArray nf), (lnum, listOf vsN.toArray n)] hp))
      (ne_fst (l := [(ll, listOf vL.toArray nL), (lw, listOf vw.toArray nw), (lf, listOf vf.toArray nf), (lnum, listOf vsN.toArray n)]) hne) (hS.fr.frx F1)
      fun p hp => N1 p (sub_last [(ll, listOf vL.toArray nL), (lw, listOf vw.toArray nw), (lf, listOf vf.toArray nf), (lnum, listOf vsN.toArray n)] p hp)
  · rintro g m₁ nx h tk rfl ⟨lh, ln, vH, vN, vL, nH, nN, nL, tl, d, rfl, hS⟩ F1 N1
    rw [hI.length] at hS
    exact done m₀ lh ln vH vN vL nH nN nL tl d m₁ h tk hS (hS.fr.fr F1) N1
end
section
variable {env : Env} {s : Shared} {Q : Flow → Shared → Prop} {f : Flow} {g₀ h' : Heap} {tk' : Nat} {c : DueC} {It lh ln r T T2 : Addr} {oI : Obj} {ns : List Int} {i j k : Nat} {x : Int} {m₀ m' : Str → Option Value} {vH vN vL : List Value} {nH nN nL : Nat} {led new tl : List (Addr × Obj)} {d d' : DS}
structure DueEnd (env : Env) (c : DueC) (It lh ln : Addr) (oI : Obj) (ns : List Int) (i : Nat) (x : Int) (m₀ m' : Str → Option Value) (g₀ h' : Heap) (led tl : List (Addr × Obj)) (d : DS) : Prop where
  fr : Fr g₀ env.locals h' m'
  nw : News g₀ env.locals h' led
  fi : FrameIs (duePs c.ll c.lw c.lf lh ln) dueStored m₀ m'
  hxi : ns[i]? = some x
  hd : d = (ns.take i).foldl step d0
  mI : (It, oI) ∈ led
  mw : (c.lw, listOf c.vw.toArray c.nw) ∈ led
  mf : (c.lf, listOf c.vf.toArray c.nf) ∈ led
  mnum : (c.lnum, listOf c.vsN.toArray c.n) ∈ led
  nI : ∀ p ∈ [c.ll, c.lw, c.lf, c.lnum], p ≠ It
  stl : ∀ p ∈ tl, p ∈ led
  ntl : ∀ p ∈ tl, p.1 ≠ It
  ntl2 : ∀ p ∈ tl, p.1 ≠ c.ll
theorem due_fin (hf : f = .next ∨ f = .cont) (H : DueEnd env c It lh ln oI ns i x m₀ m' g₀ h' led tl d) (ed : d' = step d x) (mll : (c.ll, listOf vL.toArray nL) ∈ led)
    (snew : ∀ p ∈ new, p ∈ led) (nnew : ∀ p ∈ new, p.1 ≠ It ∧ p.1 ≠ c.ll) (mh : (lh, listOf vH.toArray nH) ∈ new ++ tl) (mn : (ln, listOf vN.toArray nN) ∈ new ++ tl) (sn : StrsAre vN d'.names) (hin : HeldIn (new ++ tl) vH d'.held) (dl : DatAll (new ++ tl) vL d'.log) :
    GEnd (fun g => g = g₀) env.locals c.lnum It oI (listOf c.vsN.toArray c.n) (DueJ c ns m₀ (i + 1)) s Q f { s with heap := h', toks := tk' } := by
  have key : ∃ g' h'' tk'' m'' nx', ({ s with heap := h', toks := tk' } : Shared) = { s with heap := h'', toks := tk'' } ∧ (g' = g₀) ∧ Fr g' env.locals h'' m'' ∧ News g' env.locals h'' nx' ∧ h''.get? It = some oI ∧ g'.get? It = none ∧ (c.lnum, listOf c.vsN.toArray c.n) ∈ nx' ∧ (∀ p ∈ nx', p.1 ≠ It) ∧ DueJ c ns m₀ (i + 1) m'' nx' := by
    refine ⟨g₀, h', tk', m', (c.ll, listOf vL.toArray nL) :: (c.rest ++ (new ++ tl)), rfl, rfl, H.fr, fun p hp => ?_, (H.nw _ H.mI).1, (H.nw _ H.mI).2.2, by simp [DueC.rest], fun p hp => ?_,
      ⟨lh, ln, vH, vN, vL, nH, nN, nL, new ++ tl, d', rfl, ⟨H.fi, mh, mn, sn, hin, dl, fun p hp => ?_, ?_⟩⟩⟩
    · simp only [DueC.rest, List.cons_append, List.nil_append, List.mem_cons, List.mem_append] at hp
      rcases hp with rfl | rfl | rfl | rfl | hp | hp
      · exact H.nw _ mll
      · exact H.nw _ H.mw
      · exact H.nw _ H.mf
      · exact H.nw _ H.mnum
      · exact H.nw _ (snew p hp)
      · exact H.nw _ (H.stl p hp)
    · simp only [DueC.rest, List.cons_append, List.nil_append, List.mem_cons, List.mem_append] at hp
      rcases hp with rfl | rfl | rfl | rfl | hp | hp
      · exact H.nI _ (by simp)
      · exact H.nI _ (by simp)
      · exact H.nI _ (by simp)
      · exact H.nI _ (by simp)
      · exact (nnew p hp).1
      · exact H.ntl p hp
    · rcases List.mem_append.mp hp with hp | hp
      · exact (nnew p hp).2
      · exact H.ntl2 p hp
    · rw [fold_next H.hxi, ← H.hd, ed]
  rcases hf with rfl | rfl <;> exact key
/-- nothing new but a word of the log -/
theorem due_fin0 (hf : f = .next ∨ f = .cont) (H : DueEnd env c It lh ln oI ns i x m₀ m' g₀ h' led tl d) (ed : d' = step d x) (mll : (c.ll, listOf vL.toArray nL) ∈ led) (mh : (lh, listOf vH.toArray nH) ∈ tl) (mn : (ln, listOf vN.toArray nN) ∈ tl)
    (sn : StrsAre vN d'.names) (hin : HeldIn tl vH d'.held) (dl : DatAll tl vL d'.log) :
    GEnd (fun g => g = g₀) env.locals c.lnum It oI (listOf c.vsN.toArray c.n) (DueJ c ns m₀ (i + 1)) s Q f { s with heap := h', toks := tk' } :=
  due_fin (new := []) hf H ed mll (fun _ h => absurd h List.not_mem_nil) (fun _ h => absurd h List.not_mem_nil) mh mn sn hin dl
/-- new names -/
theorem due_finN (H : DueEnd env c It lh r oI ns i x m₀ m' g₀ h' led tl d) (ed : d' = step d x) (mll : (c.ll, listOf vL.toArray nL) ∈ led) (mr : (r, listOf vN.toArray nN) ∈ led) (r1 : r ≠ It) (r2 : r ≠ c.ll) (mh : (lh, listOf vH.toArray nH) ∈ tl)
    (sn : StrsAre vN d'.names) (hin : HeldIn tl vH d'.held) (dl : DatAll tl vL d'.log) :
    GEnd (fun g => g = g₀) env.locals c.lnum It oI (listOf c.vsN.toArray c.n) (DueJ c ns m₀ (i + 1)) s Q .next { s with heap := h', toks := tk' } :=
  due_fin (new := [(r, listOf vN.toArray nN)]) (.inl rfl) H ed mll (List.forall_mem_cons.mpr ⟨mr, List.forall_mem_nil _⟩) (List.forall_mem_cons.mpr ⟨⟨r1, r2⟩, List.forall_mem_nil _⟩)
    (.tail _ mh) (.head _) sn (hin.mono fun _ h => .tail _ h) (dl.mono fun _ h => .tail _ h)
/-- a new list of the held -/
theorem due_finH (H : DueEnd env c It r ln oI ns i x m₀ m' g₀ h' led tl d) (ed : d' = step d x) (mll : (c.ll, listOf vL.toArray nL) ∈ led) (mr : (r, listOf vH.toArray nH) ∈ led) (r1 : r ≠ It) (r2 : r ≠ c.ll) (mn : (ln, listOf vN.toArray nN) ∈ tl)
    (sn : StrsAre vN d'.names) (hin : HeldIn tl vH d'.held) (dl : DatAll tl vL d'.log) :
    GEnd (fun g => g = g₀) env.locals c.lnum It oI (listOf c.vsN.toArray c.n) (DueJ c ns m₀ (i + 1)) s Q .next { s with heap := h', toks := tk' } :=
  due_fin (new := [(r, listOf vH.toArray nH)]) (.inl rfl) H ed mll (List.forall_mem_cons.mpr ⟨mr, List.forall_mem_nil _⟩) (List.forall_mem_cons.mpr ⟨⟨r1, r2⟩, List.forall_mem_nil _⟩)
    (.head _) (.tail _ mn) sn (hin.mono fun _ h => .tail _ h) (dl.mono fun _ h => .tail _ h)
/-- a connection opened -/
theorem due_finO {held : List (Int × Str)} {pt : Int} {t u v : Tok} (H : DueEnd env c It r ln oI ns i x m₀ m' g₀ h' led tl d) (ed : step d x = openOne d held j) (hL : IsLeast (held.map (·.1)) pt) (mll : (c.ll, listOf (vL ++ [Value.ref T2]).toArray nL) ∈ led)
    (mr : (r, listOf (vH ++ [Value.ref T]).toArray nH) ∈ led) (mT : (T, ({ cls := .type "tuple", data := .seq #[.int pt t, .str (PP (filesGo j d.names)) u] } : Obj)) ∈ led) (mT2 : (T2, ({ cls := .type "tuple", data := .seq #[.str (Str.ofString "::1") v, .int pt t, .str (PP (filesGo j d.names)) u] } : Obj)) ∈ led)
    (r1 : r ≠ It) (r2 : r ≠ c.ll) (t1 : T ≠ It) (t2 : T ≠ c.ll) (u1 : T2 ≠ It) (u2 : T2 ≠ c.ll) (mn : (ln, listOf vN.toArray nN) ∈ tl)
    (sn : StrsAre vN d.names) (hin : HeldIn tl vH held) (dl : DatAll tl vL d.log) :
    GEnd (fun g => g = g₀) env.locals c.lnum It oI (listOf c.vsN.toArray c.n) (DueJ c ns m₀ (i + 1)) s Q .next { s with heap := h', toks := tk' } := by
  refine due_fin (new := [(r, listOf (vH ++ [Value.ref T]).toArray nH), (T, ({ cls := .type "tuple", data := .seq #[.int pt t, .str (PP (filesGo j d.names)) u] } : Obj)), (T2, ({ cls := .type "tuple", data := .seq #[.str (Str.ofString "::1") v, .int pt t, .str (PP (filesGo j d.names)) u] } : Obj))]) (d' := openOne d held j) (.inl rfl) H ed.symm mll
    (List.forall_mem_cons.mpr ⟨mr, List.forall_mem_cons.mpr ⟨mT, List.forall_mem_cons.mpr ⟨mT2, List.forall_mem_nil _⟩⟩⟩) (List.forall_mem_cons.mpr ⟨⟨r1, r2⟩, List.forall_mem_cons.mpr ⟨⟨t1, t2⟩, List.forall_mem_cons.mpr ⟨⟨u1, u2⟩, List.forall_mem_nil _⟩⟩⟩)
    (.head _) (List.mem_append.mpr (.inr mn)) sn ?_ ?_
  · unfold openOne
    rw [leastP_is hL]
    exact (hin.mono fun _ h => List.mem_append.mpr (.inr h)).append (.cons (t := t) (u := u) (List.mem_append.mpr (.inl (.tail _ (.head _)))) .nil)
  · unfold openOne
    rw [leastP_is hL]
    exact (dl.mono fun _ h => List.mem_append.mpr (.inr h)).append (.cons (.tuple (n := 0) (vs := [.str (Str.ofString "::1") v, .int pt t, .str (PP (filesGo j d.names)) u]) (List.mem_append.mpr (.inl (.tail _ (.tail _ (.head _))))) (.cons (.str _ _) (.cons (.int _ _) (.cons (.str _ _) .nil)))) .nil)
end
noncomputable def fnBody (P : Params) (a : Addr) : List Stmt := match (hd.heap_39 P).lookup a with
  | some ⟨_, _, .func fd, _⟩ => (match fd.body with | .stmts b => b | _ => [])
  | _ => []
noncomputable def fnScope (P : Params) (a : Addr) : Scope := match (hd.heap_39 P).lookup a with
  | some ⟨_, _, .func fd, _⟩ => fd.scope
  | _ => default
def forBody : List Stmt → List Stmt
  | [] => []
  | .For _ _ b _ _ :: _ => b
  | _ :: r => forBody r
structure DueF (ns : List Int) (i : Nat) (x v κ : Int) (j : Nat) (wd fd : Str) (tw tf : Tok) (vH vN vL vw vf : List Value) (d : DS) : Prop where
  hok : DOK i d
  hk6 : x.fmod 6 = κ
  hkk : x % 6 = κ
  hv : x.fdiv 6 = v
  hv2 : x / 6 = v
  hj : v % 5 = (j : Int)
  hj5 : (j : Int) < 5
  hj2 : v.fmod 5 = (j : Int)
  hwd : waysT[j]? = some wd
  hfd : filesT[j]? = some fd
  hW : ItemIs vw (j : Int) (.str wd tw)
  hF : ItemIs vf (j : Int) (.str fd tf)
  lN : vN.length = d.names.length
  lH : vH.length = d.held.length
  lL : vL.length = d.log.length
  b1 : d.names.length ≤ i
  b2 : d.held.length ≤ 4
  b3 : d.log.length ≤ i
  b4 : i ≤ 19
  hho : ∀ p ∈ d.held, PyData.strOk p.2 = true
  hw4 : ((waysGo j d.names).map (·.length)).sum + (waysGo j d.names).length * (Str.ofString "/").length ≤ 1000000
  hw5 : (Str.ofString "/").length + (Str.join (Str.ofString "/") (waysGo j d.names)).length ≤ 1000000
  hf4 : ((filesGo j d.names).map (·.length)).sum + (filesGo j d.names).length * (Str.ofString "/").length ≤ 1000000
  hf5 : (Str.ofString "/").length + (Str.join (Str.ofString "/") (filesGo j d.names)).length ≤ 1000000
theorem due_facts {ll lw lf lh ln : Addr} {ns : List Int} {mz m₁ : Str → Option Value} {i : Nat} {x : Int} {vH vN vL vw vf : List Value} {nH nN : Nat} {tl : List (Addr × Obj)} {d : DS} (hxi : ns[i]? = some x) (hlen : ns.length ≤ 19) (hns : ∀ x ∈ ns, 0 ≤ x ∧ x < 1000000) (sF : StrsAre vf filesT) (sW : StrsAre vw waysT)
    (hS : DueS ll lw lf ns mz i m₁ lh ln vH vN vL nH nN tl d) : ∃ v κ j wd fd tw tf, DueF ns i x v κ j wd fd tw tf vH vN vL vw vf d ∧ 0 ≤ κ ∧ κ < 6 := by
  have hi : i < ns.length := (List.getElem?_eq_some_iff.mp hxi).1
  have hok : DOK i d := hS.ed ▸ dok_fold (fun y hy => (hns y hy).1) i (by omega)
  have hv2 : x / 6 = x.fdiv 6 := (fdiv_of (by omega)).symm
  obtain ⟨j, hj, hj5⟩ := nat_of (x := x.fdiv 6) (k := 5) (by omega)
  obtain ⟨wd, hwd⟩ : ∃ wd, waysT[j]? = some wd := ⟨_, List.getElem?_eq_getElem (by show j < 5; omega)⟩
  obtain ⟨fd, hfd⟩ : ∃ fd, filesT[j]? = some fd := ⟨_, List.getElem?_eq_getElem (by show j < 5; omega)⟩
  obtain ⟨tw, hW⟩ := strs_item sW hwd (by omega)
  obtain ⟨tf, hF⟩ := strs_item sF hfd (by omega)
  have hw3 := ways_in (j := j) hok.nm hok.nl
  have hf3 := files_in (j := j) hok.nm hok.nl
  exact ⟨_, x % 6, j, wd, fd, tw, tf, ⟨hok, fmod_of (by omega), rfl, rfl, hv2, hj, hj5, (fmod_of (by omega)).trans hj, hwd, hfd, hW, hF, StrsAre.length hS.sn, hS.hin.length, hS.dl.length, hok.nl, hok.hl, hok.ll, by omega, fun p hp => (hok.ho p hp).1,
    join_w hw3.1 hw3.2 (by omega), PP_big hw3.1 hw3.2 (by omega), join_w hf3.1 hf3.2 (by omega), PP_big hf3.1 hf3.2 (by omega)⟩, Int.emod_nonneg x (by omega), Int.emod_lt_of_pos x (by omega)⟩
end
section
open PySem PySem.W PyProof.Rows PySem.Calls PySem.Spec
set_option maxRecDepth 100000
set_option maxHeartbeats 0
theorem lines_C12_1 : True := by
  k_with_none
  k_with "eval Constant int" => (refine flat_int ?_)
  k_with "eval Constant str" => (refine flat_str ?_)
  k_with "call builtin:issubclass" => (k_here; k_dflt (refine' issub_call ?kqk1 ?_; (case kqk1 => exact News.get (by k_asm) (by k_mem)); k_whole); intro tk)
  k_with "callWith" => (k_here; (with_reducible show wpAny _ _ (callWith _ (Value.builtin _) (_ :: _) _ _) _ _ _); refine callWith_method1 ?_)
  trivial
/-- the Try statement of talk's loop -/
def elseOf : List Stmt → List Stmt
  | [] => []
  | .If _ _ o _ :: [] => o
  | _ :: r => elseOf r
def thenOf : List Stmt → List Stmt
  | [] => []
  | .If _ b _ _ :: [] => b
  | _ :: r => thenOf r
def lastOf : List Stmt → List Stmt
  | [] => []
  | [x] => [x]
  | _ :: r => lastOf r
noncomputable def talkTry (P : Params) : List Stmt := lastOf (thenOf (elseOf (elseOf (elseOf (forBody (fnBody P 236))))))
noncomputable def talkTry1 (P : Params) : Stmt := ((talkTry P).head?).getD default
abbrev tryPs (lq lh ll : Addr) (x nm : Str) (tx tn : Tok) (p : Int) (tp : Tok) : List (Str × Value) :=
  [(Str.ofString "reply", .str x tx), (Str.ofString "name", .str nm tn), (Str.ofString "held", .ref lh), (Str.ofString "log", .ref ll), (Str.ofString "free", .ref lq), (Str.ofString "port", .int p tp)]
/-- the ground between talk's turns -/
structure TalkG (w : World) (mean : ExcName → Option Value) (mg mb : Str → Option Value) (A₀ : Around) (base g₀ : Heap) (outer : List Env) (g : Heap) : Prop where
  B : Below A₀ base outer g
  X : (hd.heap_39 w.params).In g
  T : Top hd.view_39 (looseW hd.view_39 []) mean mg mb g
  D : KtsDicts (outer.filterMap (·.frame)) g
  K : KtsTurn (outer.filterMap (·.frame)) g₀ g
theorem Fr.ps {g h : Heap} {L : Addr} {m : Str → Option Value} {ps : List (Str × Value)} (F : Fr g L h m) (hp : ∀ p ∈ ps, m p.1 = some p.2) : Fr g L h (kstB m ps) := by
  have e : kstB m ps = m := by
    funext z
    exact kstB_eq hp fun _ => rfl
  rw [e]; exact F
theorem news_skip2 {h₀ h : Heap} {L : Addr} {a b c d : Addr × Obj} {l : List (Addr × Obj)} (N : News h₀ L h (a :: b :: c :: d :: l)) : News h₀ L h (a :: b :: l) := fun p hp => N p (by
  rcases List.mem_cons.mp hp with h | hp
  · exact h ▸ .head _
  · rcases List.mem_cons.mp hp with h | hp
    · exact h ▸ .tail _ (.head _)
    · exact .tail _ (.tail _ (.tail _ (.tail _ hp))))
/-- the free ports and the held ones are those told so far -/
def portsL (fr : Int) : List Int := (List.range (fr - 1024).toNat).map fun (k : Nat) => 1024 + (k : Int)
structure FreeOK (qs : List Int) (held : List (Int × Str)) (fr : Int) : Prop where
  hp : HeapOk qs
  lo : 1024 ≤ fr
  hi : fr ≤ 1028
  pr : (qs ++ held.map (·.1)).Perm (portsL fr)
abbrev talkStored : List Str := [Str.ofString "x", Str.ofString "kind", Str.ofString "value", Str.ofString "mark", Str.ofString "name", Str.ofString "way", Str.ofString "port", Str.ofString "host", Str.ofString "told", Str.ofString "reply", Str.ofString "wrong"]
abbrev talkPs (lq lh ll lw lf : Addr) (fr : Int) (tfr : Tok) (pl : Str) (tpl : Tok) : List (Str × Value) :=
  [(Str.ofString "free", .ref lq), (Str.ofString "fresh", .int fr tfr), (Str.ofString "held", .ref lh), (Str.ofString "log", .ref ll), (Str.ofString "place", .str pl tpl), (Str.ofString "files", .ref lf), (Str.ofString "ways", .ref lw)]
abbrev talkFr (m₀ m₁ : Str → Option Value) (lq lh ll lw lf : Addr) (fr : Int) (tfr : Tok) (pl : Str) (tpl : Tok) : Str → Option Value := kstB (fun z => if talkStored.contains z then m₁ z else m₀ z) (talkPs lq lh ll lw lf fr tfr pl tpl)
structure TalkC where
  (lq lh ll lw lf lnum : Addr)
  (vw vf vsN : List Value)
  (nw nf n : Nat)
abbrev TalkC.rest (c : TalkC) : List (Addr × Obj) := [(c.lw, listOf c.vw.toArray c.nw), (c.lf, listOf c.vf.toArray c.nf), (c.lnum, listOf c.vsN.toArray c.n)]
structure TalkS (lq lh ll lw lf : Addr) (ns : List Int) (m₀ : Str → Option Value) (i : Nat) (m : Str → Option Value) (qs : List Int) (fr : Int) (tfr tpl : Tok) (vH vQ vL : List Value) (tl : List (Addr × Obj)) (d : DS) : Prop where
  fi : FrameIs (talkPs lq lh ll lw lf fr tfr (PP d.names) tpl) talkStored m₀ m
  hq : IntsAre vQ qs
  fo : FreeOK qs d.held fr
  hin : HeldIn tl vH d.held
  dl : DatAll tl vL d.log
  off : OwnOff tl [ll, lh, lq]
  ed : d = (ns.take i).foldl step d0
def TalkJ (c : TalkC) (ns : List Int) (m₀ : Str → Option Value) (i : Nat) (m : Str → Option Value) (nx : List (Addr × Obj)) : Prop :=
  ∃ qs fr tfr tpl vH vQ vL nH nQ nL tl d, nx = (c.ll, listOf vL.toArray nL) :: (c.lh, listOf vH.toArray nH) :: (c.lq, listOf vQ.toArray nQ) :: (c.rest ++ tl) ∧ TalkS c.lq c.lh c.ll c.lw c.lf ns m₀ i m qs fr tfr tpl vH vQ vL tl d
theorem talkZ {z : Str} (hs : talkStored.contains z = false) : z ≠ Str.ofString "x" ∧ z ≠ Str.ofString "kind" ∧ z ≠ Str.ofString "value" ∧ z ≠ Str.ofString "mark" ∧ z ≠ Str.ofString "name" ∧ z ≠ Str.ofString "way" ∧ z ≠ Str.ofString "port" ∧ z ≠ Str.ofString "host" ∧ z ≠ Str.ofString "told" ∧ z ≠ Str.ofString "reply" ∧ z ≠ Str.ofString "wrong" := by
  have h := nst hs
  exact ⟨h _ (.head _), h _ (.tail _ (.head _)), h _ (.tail _ (.tail _ (.head _))), h _ (.tail _ (.tail _ (.tail _ (.head _)))), h _ (.tail _ (.tail _ (.tail _ (.tail _ (.head _))))), h _ (.tail _ (.tail _ (.tail _ (.tail _ (.tail _ (.head _)))))), h _ (.tail _ (.tail _ (.tail _ (.tail _ (.tail _ (.tail _ (.head _))))))), h _ (.tail _ (.tail _ (.tail _ (.tail _ (.tail _ (.tail _ (.tail _ (.head _)))))))), h _ (.tail _ (.tail _ (.tail _ (.tail _ (.tail _ (.tail _ (.tail _ (.tail _ (.head _))))))))), h _ (.tail _ (.tail _ (.tail _ (.tail _ (.tail _ (.tail _ (.tail _ (.tail _ (.tail _ (.head _)))))))))), h _ (.tail _ (.tail _ (.tail _ (.tail _ (.tail _ (.tail _ (.tail _ (.tail _ (.tail _ (.tail _ (.head _)))))))))))⟩
theorem talkY {z : Str} {lq lh ll lw lf : Addr} {fr : Int} {tfr tpl : Tok} {pl : Str} (hz : ∀ p ∈ talkPs lq lh ll lw lf fr tfr pl tpl, z ≠ p.1) : z ≠ Str.ofString "free" ∧ z ≠ Str.ofString "fresh" ∧ z ≠ Str.ofString "held" ∧ z ≠ Str.ofString "log" ∧ z ≠ Str.ofString "place" ∧ z ≠ Str.ofString "files" ∧ z ≠ Str.ofString "ways" :=
  ⟨hz _ (.head _), hz _ (.tail _ (.head _)), hz _ (.tail _ (.tail _ (.head _))), hz _ (.tail _ (.tail _ (.tail _ (.head _)))), hz _ (.tail _ (.tail _ (.tail _ (.tail _ (.head _))))), hz _ (.tail _ (.tail _ (.tail _ (.tail _ (.tail _ (.head _)))))), hz _ (.tail _ (.tail _ (.tail _ (.tail _ (.tail _ (.tail _ (.head _))))))) ⟩
theorem talk_base {z : Str} {m₀ m₁ : Str → Option Value} {lq lh ll lw lf lq2 lh2 ll2 lw2 lf2 : Addr} {fr fr2 : Int} {tfr tpl tfr2 tpl2 : Tok} {pl pl2 : Str} (hz : ∀ p ∈ talkPs lq2 lh2 ll2 lw2 lf2 fr2 tfr2 pl2 tpl2, z ≠ p.1) (hs : talkStored.contains z = false) :
    talkFr m₀ m₁ lq lh ll lw lf fr tfr pl tpl z = m₀ z := by
  obtain ⟨h1, h2, h3, h4, h5, h6, h7⟩ := talkY hz
  simp only [talkFr, kstB, if_neg h1, if_neg h2, if_neg h3, if_neg h4, if_neg h5, if_neg h6, if_neg h7, hs, Bool.false_eq_true, if_false]
theorem nI_nat6 {a b c d e f It : Addr} (h : ∀ p ∈ [a, b, c, d, e, f], p ≠ It) : @Ne Nat a It ∧ @Ne Nat b It ∧ @Ne Nat c It ∧ @Ne Nat d It ∧ @Ne Nat e It ∧ @Ne Nat f It := ⟨h _ (.head _), h _ (.tail _ (.head _)), h _ (.tail _ (.tail _ (.head _))), h _ (.tail _ (.tail _ (.tail _ (.head _)))), h _ (.tail _ (.tail _ (.tail _ (.tail _ (.head _))))), h _ (.tail _ (.tail _ (.tail _ (.tail _ (.tail _ (.head _))))))⟩
section
variable {prog : Program} {w : World} {A : Around} {E : Value → Shared → Prop} {s : Shared} {env : Env} {body : List Stmt} {Q : Flow → Shared → Prop}
theorem talk_loop {G : Heap → Prop} {iter : PySem.Expr} {px pos : Pos} {g₀ : Heap} {m₀ : Str → Option Value} {tfr tpl : Tok} {ll lh lq D lw lf lnum : Addr} {oD : Obj} {vw vf vsN : List Value} {nw nf n : Nat} {ns : List Int} (hI : IntsAre vsN ns) (hG : G g₀)
    (hh : A.handled = none) (hx : env.kindOf (Str.ofString "x") = some .local) (hp : (env.scope.kind == .class || (env.scope.kind == .module && env.locals != env.globals)) = false)
    (F : Fr g₀ env.locals s.heap m₀) (N : News g₀ env.locals s.heap [(ll, listOf #[] 0), (lh, listOf #[] 0), (lq, listOf #[] 0), (D, oD), (lw, listOf vw.toArray nw), (lf, listOf vf.toArray nf), (lnum, listOf vsN.toArray n)])
    (hm0 : ∀ p ∈ talkPs lq lh ll lw lf 1024 tfr (Str.ofString "/") tpl, m₀ p.1 = some p.2)
    (hit : ∀ Q' : Value → Shared → Prop, Q' (.ref lnum) s → wpAny (model prog w) A (eval iter env) Q' E s)
    (turn : Hold (∀ mz g i x t qs fr tfr tpl vH vQ vL nH nQ nL tl d m₁ h tk It oI, ns[i]? = some x → G g → TalkS lq lh ll lw lf ns mz i m₁ qs fr tfr tpl vH vQ vL tl d → (∀ p ∈ tl, p.1 ≠ It) → (∀ p ∈ [ll, lh, lq, lw, lf, lnum], p ≠ It) →
      Fr g env.locals h (fun y => if y = Str.ofString "x" then some (.int x t) else talkFr mz m₁ lq lh ll lw lf fr tfr (PP d.names) tpl y) →
      News g env.locals h ((ll, listOf vL.toArray nL) :: (lh, listOf vH.toArray nH) :: (lq, listOf vQ.toArray nQ) :: (lw, listOf vw.toArray nw) :: (lf, listOf vf.toArray nf) :: (lnum, listOf vsN.toArray n) :: (It, oI) :: tl) →
      wpAny (model prog w) A (execs body env) (GEnd G env.locals lnum It oI (listOf vsN.toArray n) (TalkJ ⟨lq, lh, ll, lw, lf, lnum, vw, vf, vsN, nw, nf, n⟩ ns mz (i + 1)) s Q) E { s with heap := h, toks := tk }))
    (done : Hold (∀ mz g qs fr tfr tpl vH vQ vL nH nQ nL tl d m₁ h tk, G g → TalkS lq lh ll lw lf ns mz ns.length m₁ qs fr tfr tpl vH vQ vL tl d → Fr g env.locals h (talkFr mz m₁ lq lh ll lw lf fr tfr (PP d.names) tpl) →
      News g env.locals h ((ll, listOf vL.toArray nL) :: (lh, listOf vH.toArray nH) :: (lq, listOf vQ.toArray nQ) :: (lw, listOf vw.toArray nw) :: (lf, listOf vf.toArray nf) :: (lnum, listOf vsN.toArray n) :: tl) → Q .next { s with heap := h, toks := tk }))
    (hs : ∀ x, foldedSetIterable iter env x = pure x := by intro _; rfl)
    (hE : PassesOwn (model prog w) A env E := by passes_own) :
    wpAny (model prog w) A (exec (.For (.Name (Str.ofString "x") px) iter body [] pos) env) Q E s := by
  have N2 : News g₀ env.locals s.heap ((ll, listOf #[] 0) :: (lh, listOf #[] 0) :: (lq, listOf #[] 0) :: ([(lw, listOf vw.toArray nw), (lf, listOf vf.toArray nf), (lnum, listOf vsN.toArray n)] ++ [])) :=
    List.forall_mem_cons.mpr ⟨N _ (.head _), List.forall_mem_cons.mpr ⟨N _ (.tail _ (.head _)), List.forall_mem_cons.mpr ⟨N _ (.tail _ (.tail _ (.head _))), fun p hp => N p (.tail _ (.tail _ (.tail _ (.tail _ hp))))⟩⟩⟩
  refine loop_ground (G := G) (l := lnum) (vs := vsN) (nn := n) (TalkJ ⟨lq, lh, ll, lw, lf, lnum, vw, vf, vsN, nw, nf, n⟩ ns m₀) hh hx hp F N2 (.tail _ (.tail _ (.tail _ (.tail _ (.tail _ (.head _)))))) hG ?_ hit ?_ ?_ hs hE
  · have e0 : PP [] = Str.ofString "/" := by decide +kernel
    exact ⟨[], 1024, tfr, tpl, [], [], [], 0, 0, 0, [], d0, rfl, ⟨⟨by show ∀ p ∈ talkPs lq lh ll lw lf 1024 tfr (PP []) tpl, m₀ p.1 = some p.2; rw [e0]; exact hm0, fun _ _ _ => rfl⟩, .nil, ⟨trivial, by decide, by decide, by simp [portsL, d0]⟩, .nil, .nil, fun p hp => absurd hp List.not_mem_nil, rfl⟩⟩
  · rintro i v g m₁ nx h tk It oI hv hg ⟨qs, fr, tfr, tpl, vH, vQ, vL, nH, nQ, nL, tl, d, rfl, hS⟩ hl hne F1 N1
    obtain ⟨x, t, rfl, hxi⟩ := IntsAre.at hI i v hv
    exact turn m₀ g i x t qs fr tfr tpl vH vQ vL nH nQ nL tl d m₁ h tk It oI hxi hg hS (fun p hp => hne p (List.mem_append_right [(ll, listOf vL.toArray nL), (lh, listOf vH.toArray nH), (lq, listOf vQ.toArray nQ), (lw, listOf vw.toArray nw), (lf, listOf vf.toArray nf), (lnum, listOf vsN.toArray n)] hp))
      (ne_fst (l := [(ll, listOf vL.toArray nL), (lh, listOf vH.toArray nH), (lq, listOf vQ.toArray nQ), (lw, listOf vw.toArray nw), (lf, listOf vf.toArray nf), (lnum, listOf vsN.toArray n)]) hne) (hS.fi.frx F1)
      fun p hp => N1 p (sub_last [(ll, listOf vL.toArray nL), (lh, listOf vH.toArray nH), (lq, listOf vQ.toArray nQ), (lw, listOf vw.toArray nw), (lf, listOf vf.toArray nf), (lnum, listOf vsN.toArray n)] p hp)
  · rintro g m₁ nx h tk hg ⟨qs, fr, tfr, tpl, vH, vQ, vL, nH, nQ, nL, tl, d, rfl, hS⟩ F1 N1
    rw [hI.length] at hS
    exact done m₀ g qs fr tfr tpl vH vQ vL nH nQ nL tl d m₁ h tk hg hS (hS.fi.fr F1) N1
end
structure TalkEnd (L₂ : Addr) (c : TalkC) (It : Addr) (oI : Obj) (ns : List Int) (i : Nat) (x : Int) (m₀ m' : Str → Option Value) (fr : Int) (tfr tpl : Tok) (g h' : Heap) (led tl : List (Addr × Obj)) (d d' : DS) : Prop where
  fF : Fr g L₂ h' m'
  nw : News g L₂ h' led
  fi : FrameIs (talkPs c.lq c.lh c.ll c.lw c.lf fr tfr (PP d'.names) tpl) talkStored m₀ m'
  hxi : ns[i]? = some x
  hd : d = (ns.take i).foldl step d0
  ed : d' = step d x
  mI : (It, oI) ∈ led
  mw : (c.lw, listOf c.vw.toArray c.nw) ∈ led
  mf : (c.lf, listOf c.vf.toArray c.nf) ∈ led
  mnum : (c.lnum, listOf c.vsN.toArray c.n) ∈ led
  nI : ∀ p ∈ [c.ll, c.lh, c.lq, c.lw, c.lf, c.lnum], p ≠ It
  stl : ∀ p ∈ tl, p ∈ led
  ntl : ∀ p ∈ tl, p.1 ≠ It
  off : OwnOff tl [c.ll, c.lh, c.lq]
section
variable {G : Heap → Prop} {s : Shared} {Q : Flow → Shared → Prop} {g h' : Heap} {tk' : Nat} {c : TalkC} {L₂ It T1 T2 : Addr} {oI : Obj} {ns qs : List Int} {i j : Nat} {x fr : Int} {tfr tpl : Tok} {m₀ m' : Str → Option Value} {vH vQ vL : List Value} {nH nQ nL : Nat} {led new tl : List (Addr × Obj)} {d d' : DS}
theorem talk_fin (hG : G g) (H : TalkEnd L₂ c It oI ns i x m₀ m' fr tfr tpl g h' led tl d d') (mll : (c.ll, listOf vL.toArray nL) ∈ led) (mlh : (c.lh, listOf vH.toArray nH) ∈ led) (mlq : (c.lq, listOf vQ.toArray nQ) ∈ led)
    (hq : IntsAre vQ qs) (fo : FreeOK qs d'.held fr) (snew : ∀ p ∈ new, p ∈ led) (nnew : ∀ p ∈ new, p.1 ≠ It) (onew : OwnOff new [c.ll, c.lh, c.lq]) (hin : HeldIn (new ++ tl) vH d'.held) (dl : DatAll (new ++ tl) vL d'.log) :
    GEnd G L₂ c.lnum It oI (listOf c.vsN.toArray c.n) (TalkJ c ns m₀ (i + 1)) s Q .next { s with heap := h', toks := tk' } := by
  refine ⟨g, h', tk', m', (c.ll, listOf vL.toArray nL) :: (c.lh, listOf vH.toArray nH) :: (c.lq, listOf vQ.toArray nQ) :: (c.rest ++ (new ++ tl)), rfl, hG, H.fF, fun p hp => ?_, (H.nw _ H.mI).1, (H.nw _ H.mI).2.2, by simp [TalkC.rest], fun p hp => ?_,
    ⟨qs, fr, tfr, tpl, vH, vQ, vL, nH, nQ, nL, new ++ tl, d', rfl, ⟨H.fi, hq, fo, hin, dl, fun p hp => ?_, ?_⟩⟩⟩
  · simp only [TalkC.rest, List.cons_append, List.nil_append, List.mem_cons, List.mem_append] at hp
    rcases hp with rfl | rfl | rfl | rfl | rfl | rfl | hp | hp
    · exact H.nw _ mll
    · exact H.nw _ mlh
    · exact H.nw _ mlq
    · exact H.nw _ H.mw
    · exact H.nw _ H.mf
    · exact H.nw _ H.mnum
    · exact H.nw _ (snew p hp)
    · exact H.nw _ (H.stl p hp)
  · simp only [TalkC.rest, List.cons_append, List.nil_append, List.mem_cons, List.mem_append] at hp
    rcases hp with rfl | rfl | rfl | rfl | rfl | rfl | hp | hp
    · exact H.nI _ (by simp)
    · exact H.nI _ (by simp)
    · exact H.nI _ (by simp)
    · exact H.nI _ (by simp)
    · exact H.nI _ (by simp)
    · exact H.nI _ (by simp)
    · exact nnew p hp
    · exact H.ntl p hp
  · rcases List.mem_append.mp hp with hp | hp
    · exact onew p hp
    · exact H.off p hp
  · rw [fold_next H.hxi, ← H.hd, H.ed]
theorem talk_fin0 (hG : G g) (H : TalkEnd L₂ c It oI ns i x m₀ m' fr tfr tpl g h' led tl d d') (mll : (c.ll, listOf vL.toArray nL) ∈ led) (mlh : (c.lh, listOf vH.toArray nH) ∈ led) (mlq : (c.lq, listOf vQ.toArray nQ) ∈ led)
    (hq : IntsAre vQ qs) (fo : FreeOK qs d'.held fr) (hin : HeldIn tl vH d'.held) (dl : DatAll tl vL d'.log) :
    GEnd G L₂ c.lnum It oI (listOf c.vsN.toArray c.n) (TalkJ c ns m₀ (i + 1)) s Q .next { s with heap := h', toks := tk' } :=
  talk_fin (new := []) hG H mll mlh mlq hq fo (fun _ h => absurd h List.not_mem_nil) (fun _ h => absurd h List.not_mem_nil) (fun _ h => absurd h List.not_mem_nil) hin dl
theorem talk_finO {held : List (Int × Str)} {pt : Int} {t u v : Tok} (hG : G g) (H : TalkEnd L₂ c It oI ns i x m₀ m' fr tfr tpl g h' led tl d (openOne d held j)) (hL : IsLeast (held.map (·.1)) pt) (mll : (c.ll, listOf (vL ++ [Value.ref T2]).toArray nL) ∈ led)
    (mlh : (c.lh, listOf (vH ++ [Value.ref T1]).toArray nH) ∈ led) (mlq : (c.lq, listOf vQ.toArray nQ) ∈ led) (hq : IntsAre vQ qs) (fo : FreeOK qs (held ++ [(pt, PP (filesGo j d.names))]) fr)
    (mT : (T1, ({ cls := .type "tuple", data := .seq #[.int pt t, .str (PP (filesGo j d.names)) u] } : Obj)) ∈ led) (mT2 : (T2, ({ cls := .type "tuple", data := .seq #[.str (Str.ofString "::1") v, .int pt t, .str (PP (filesGo j d.names)) u] } : Obj)) ∈ led)
    (n1 : T1 ≠ It) (n2 : T2 ≠ It) (o1 : ∀ b ∈ [c.ll, c.lh, c.lq], T1 ≠ b) (o2 : ∀ b ∈ [c.ll, c.lh, c.lq], T2 ≠ b) (hin : HeldIn tl vH held) (dl : DatAll tl vL d.log) :
    GEnd G L₂ c.lnum It oI (listOf c.vsN.toArray c.n) (TalkJ c ns m₀ (i + 1)) s Q .next { s with heap := h', toks := tk' } := by
  refine talk_fin (new := [(T1, ({ cls := .type "tuple", data := .seq #[.int pt t, .str (PP (filesGo j d.names)) u] } : Obj)), (T2, ({ cls := .type "tuple", data := .seq #[.str (Str.ofString "::1") v, .int pt t, .str (PP (filesGo j d.names)) u] } : Obj))]) (d' := openOne d held j) (qs := qs) hG H mll mlh mlq hq ?_
    (List.forall_mem_cons.mpr ⟨mT, List.forall_mem_cons.mpr ⟨mT2, List.forall_mem_nil _⟩⟩) (List.forall_mem_cons.mpr ⟨n1, List.forall_mem_cons.mpr ⟨n2, List.forall_mem_nil _⟩⟩) (List.forall_mem_cons.mpr ⟨o1, List.forall_mem_cons.mpr ⟨o2, List.forall_mem_nil _⟩⟩) ?_ ?_
  · unfold openOne
    rw [leastP_is hL]
    exact fo
  · unfold openOne
    rw [leastP_is hL]
    exact (hin.mono fun _ h => List.mem_append.mpr (.inr h)).append (.cons (t := t) (u := u) (List.mem_append.mpr (.inl (.head _))) .nil)
  · unfold openOne
    rw [leastP_is hL]
    exact (dl.mono fun _ h => List.mem_append.mpr (.inr h)).append (.cons (.tuple (n := 0) (vs := [.str (Str.ofString "::1") v, .int pt t, .str (PP (filesGo j d.names)) u]) (List.mem_append.mpr (.inl (.tail _ (.head _)))) (.cons (.str _ _) (.cons (.int _ _) (.cons (.str _ _) .nil)))) .nil)
end
structure TalkF (i : Nat) (x v κ : Int) (j k3 c : Nat) (wd fd : Str) (tw tf : Tok) (qs : List Int) (vH vQ vL vw vf : List Value) (d : DS) : Prop where
  hok : DOK i d
  hk6 : x.fmod 6 = κ
  hkk : x % 6 = κ
  hv : x.fdiv 6 = v
  hv2 : x / 6 = v
  hj : v % 5 = (j : Int)
  hj5 : (j : Int) < 5
  hj2 : v.fmod 5 = (j : Int)
  hm2 : v.fmod 3 = (k3 : Int)
  hm3 : (k3 : Int) < 3
  hm4 : (Str.ofString "|!~").length = 3
  hmk : Txt.item (Str.ofString "|!~") (k3 : Int) = ⟨#[c]⟩
  hW : ItemIs vw (j : Int) (.str wd tw)
  hF : ItemIs vf (j : Int) (.str fd tf)
  lH : vH.length = d.held.length
  lL : vL.length = d.log.length
  lQ : qs.length + d.held.length ≤ 4
  b2 : d.held.length ≤ 4
  b3 : d.log.length ≤ i
  b4 : i ≤ 19
  hho : ∀ p ∈ d.held, PyData.strOk p.2 = true
  lp : (PP d.names).length ≤ 300
  lp0 : 0 < (PP d.names).length
  lw : wd.length ≤ 20
  lf : fd.length ≤ 20
  nF : NormIs (joinP (PP d.names) fd) (PP (filesGo j d.names))
  nFl : (PP (filesGo j d.names)).length ≤ 500
  hOk : ∀ p, 1024 ≤ p → p < 1028 → P229Ok (pre229 c p ++ PP (filesGo j d.names)) p
theorem HeldIn.at {tl : List (Addr × Obj)} {vs : List Value} {hs : List (Int × Str)} (x : HeldIn tl vs hs) : ∀ k, k < hs.length → ∃ p nm a t u pV qV, vs = pV ++ Value.ref a :: qV ∧ (a, ({ cls := .type "tuple", data := .seq #[.int p t, .str nm u] } : Obj)) ∈ tl ∧ pV.length = k ∧ hs[k]? = some (p, nm) ∧ vs.take k ++ vs.drop (k + 1) = pV ++ qV := by
  induction x with
  | nil => intro k hk; simp at hk
  | cons hm _ ih =>
    intro k hk
    cases k with
    | zero => exact ⟨_, _, _, _, _, [], _, rfl, hm, rfl, rfl, by simp⟩
    | succ k =>
      obtain ⟨p, nm, a, t, u, pV, qV, e, h1, h2, h3, h4⟩ := ih k (by simpa using hk)
      refine ⟨p, nm, a, t, u, _ :: pV, qV, by rw [e]; rfl, h1, by rw [List.length_cons, h2], by simpa using h3, ?_⟩
      simp only [List.take_succ_cons, List.drop_succ_cons, List.cons_append, h4]
end
section
open PySem PySem.W PyProof.Rows PySem.Calls PySem.Spec PyProof.V
set_option maxRecDepth 100000
set_option maxHeartbeats 400000
theorem ports_mem {fr x : Int} (hlo : 1024 ≤ fr) : x ∈ portsL fr ↔ 1024 ≤ x ∧ x < fr := by
  unfold portsL
  rw [List.mem_map]
  constructor
  · rintro ⟨k, hk, rfl⟩
    rw [List.mem_range] at hk
    omega
  · rintro ⟨h1, h2⟩
    exact ⟨(x - 1024).toNat, List.mem_range.mpr (by omega), by omega⟩
theorem ports_nodup (fr : Int) : (portsL fr).Nodup := by
  unfold portsL
  refine List.Pairwise.map _ (fun a b (h : a ≠ b) => ?_) List.nodup_range
  intro e
  apply h
  omega
theorem ports_len (fr : Int) : (portsL fr).length = (fr - 1024).toNat := by simp [portsL]
theorem ports_next {fr : Int} (h : 1024 ≤ fr) : portsL (fr + 1) = portsL fr ++ [fr] := by
  unfold portsL
  have e : (fr + 1 - 1024).toNat = (fr - 1024).toNat + 1 := by omega
  rw [e, List.range_succ, List.map_append]
  simp
  omega
theorem FreeOK.len {qs : List Int} {held : List (Int × Str)} {fr : Int} (h : FreeOK qs held fr) : qs.length + held.length = (fr - 1024).toNat := by
  have := h.pr.length_eq
  rw [ports_len] at this
  simpa using this
theorem FreeOK.len4 {qs : List Int} {held : List (Int × Str)} {fr : Int} (h : FreeOK qs held fr) : qs.length + held.length ≤ 4 := by
  have h1 := h.len
  have h2 := h.hi
  have h3 := h.lo
  omega
theorem least_of {ports qs : List Int} {fr r : Int} (hlo : 1024 ≤ fr) (pr : (r :: qs ++ ports).Perm (portsL fr)) (hl : ∀ x ∈ qs, r ≤ x) : IsLeast ports r ∧ 1024 ≤ r ∧ r < fr := by
  have hr := (ports_mem (x := r) hlo).mp (pr.mem_iff.mp (List.mem_append.mpr (.inl (.head _))))
  refine ⟨⟨hr.1, ?_, fun j h1 h2 => ?_⟩, hr.1, hr.2⟩
  · have hn := pr.nodup_iff.mpr (ports_nodup fr)
    rw [List.cons_append, List.nodup_cons] at hn
    exact fun hm => hn.1 (List.mem_append.mpr (.inr hm))
  · have hj := pr.mem_iff.mpr ((ports_mem hlo).mpr ⟨h1, by omega⟩)
    rw [List.cons_append, List.mem_cons, List.mem_append] at hj
    rcases hj with rfl | hj | hj
    · omega
    · have := hl j hj
      omega
    · exact hj
theorem erase_perm {held : List (Int × Str)} {k : Nat} {p : Int} {nm : Str} (hk : held[k]? = some (p, nm)) : (held.map (·.1)).Perm (p :: (held.eraseIdx k).map (·.1)) := by
  obtain ⟨h, e⟩ := List.getElem?_eq_some_iff.mp hk
  have h0 : held = held.take k ++ (p, nm) :: held.drop (k + 1) := by
    rw [← e, ← List.drop_eq_getElem_cons h, List.take_append_drop]
  have h1 : (held.take k ++ (p, nm) :: held.drop (k + 1)).Perm ((p, nm) :: (held.take k ++ held.drop (k + 1))) := List.perm_middle
  rw [← h0, ← erase_cat] at h1
  exact h1.map (·.1)
theorem free_close {qs qs' : List Int} {held : List (Int × Str)} {fr p : Int} {nm : Str} {k : Nat} (fo : FreeOK qs held fr) (hk : held[k]? = some (p, nm)) (hP : qs'.Perm (p :: qs)) (hH : HeapOk qs') : FreeOK qs' (held.eraseIdx k) fr := by
  refine ⟨hH, fo.lo, fo.hi, (hP.append_right _).trans (.trans ?_ fo.pr)⟩
  have h1 : (qs ++ p :: (held.eraseIdx k).map (·.1)).Perm (qs ++ held.map (·.1)) := (erase_perm hk).symm.append_left qs
  exact List.perm_middle.symm.trans h1
theorem free_open {qs qs' ports : List Int} {held : List (Int × Str)} {fr r : Int} {nm : Str} (hlo : 1024 ≤ fr) (hhi : fr ≤ 1028) (hh : ports = held.map (·.1)) (pr : (qs ++ ports).Perm (portsL fr)) (hP : (r :: qs').Perm qs) (hH : HeapOk qs') (hl : ∀ x ∈ qs, r ≤ x) :
    FreeOK qs' (held ++ [(r, nm)]) fr ∧ IsLeast (held.map (·.1)) r ∧ 1024 ≤ r ∧ r < 1028 := by
  subst hh
  have h1 : (r :: qs' ++ held.map (·.1)).Perm (portsL fr) := (hP.append_right _).trans pr
  obtain ⟨a, b, c⟩ := least_of hlo h1 fun x hx => hl x (hP.mem_iff.mp (.tail _ hx))
  refine ⟨⟨hH, hlo, hhi, ?_⟩, a, b, by omega⟩
  rw [List.map_append]
  refine List.Perm.trans ?_ h1
  rw [← List.append_assoc, List.cons_append]
  exact List.perm_append_singleton _ _
theorem free_swap {qs qs' : List Int} {held : List (Int × Str)} {fr p r : Int} {nm nm2 : Str} {k : Nat} (fo : FreeOK qs held fr) (hk : held[k]? = some (p, nm)) (hP : (r :: qs').Perm (p :: qs)) (hH : HeapOk qs') (hl : ∀ x ∈ p :: qs, r ≤ x) :
    FreeOK qs' (held.eraseIdx k ++ [(r, nm2)]) fr ∧ IsLeast ((held.eraseIdx k).map (·.1)) r ∧ 1024 ≤ r ∧ r < 1028 := by
  refine free_open fo.lo fo.hi rfl (qs := p :: qs) ?_ hP hH hl
  exact List.perm_middle.symm.trans (((erase_perm hk).symm.append_left qs).trans fo.pr)
theorem free_pop {qs qs' : List Int} {held : List (Int × Str)} {fr r : Int} {nm : Str} (fo : FreeOK qs held fr) (hP : (r :: qs').Perm qs) (hH : HeapOk qs') (hl : ∀ x ∈ qs, r ≤ x) :
    FreeOK qs' (held ++ [(r, nm)]) fr ∧ IsLeast (held.map (·.1)) r ∧ 1024 ≤ r ∧ r < 1028 := free_open fo.lo fo.hi rfl fo.pr hP hH hl
theorem free_new {held : List (Int × Str)} {fr : Int} {nm : Str} (fo : FreeOK [] held fr) (hh : held.length ≤ 3) : FreeOK [] (held ++ [(fr, nm)]) (fr + 1) ∧ IsLeast (held.map (·.1)) fr ∧ 1024 ≤ fr ∧ fr < 1028 := by
  have h1 := fo.len
  have h2 := fo.lo
  simp at h1
  have h3 : fr < 1028 := by omega
  refine ⟨⟨fo.hp, by omega, by omega, ?_⟩, ⟨h2, fun hm => ?_, fun j a b => ?_⟩, h2, h3⟩
  · rw [List.map_append, ports_next h2]
    exact (fo.pr.append_right [fr])
  · have := (ports_mem h2).mp (fo.pr.mem_iff.mp (by simpa using hm))
    omega
  · have := fo.pr.mem_iff.mpr ((ports_mem h2).mpr ⟨a, b⟩)
    simpa using this
theorem free_back {qs qs' qs2 : List Int} {held : List (Int × Str)} {fr r : Int} (fo : FreeOK qs held fr) (hP : (r :: qs').Perm qs) (hP2 : qs2.Perm (r :: qs')) (hH : HeapOk qs2) : FreeOK qs2 held fr :=
  ⟨hH, fo.lo, fo.hi, ((hP2.trans hP).append_right _).trans fo.pr⟩
theorem free_backNew {qs2 : List Int} {held : List (Int × Str)} {fr : Int} (fo : FreeOK [] held fr) (hh : held.length ≤ 3) (hP2 : qs2.Perm [fr]) (hH : HeapOk qs2) : FreeOK qs2 held (fr + 1) := by
  have h1 := fo.len
  have h2 := fo.lo
  simp at h1
  refine ⟨hH, by omega, by omega, (hP2.append_right _).trans ?_⟩
  rw [ports_next h2]
  have h3 : (held.map (fun (q : Int × Str) => q.1)).Perm (portsL fr) := fo.pr
  exact (List.perm_append_comm (l₁ := [fr]) (l₂ := held.map (fun (q : Int × Str) => q.1))).trans (h3.append_right [fr])
end
section
open PySem PySem.W PyProof.Rows PySem.Calls PySem.Spec PyProof.V
set_option maxRecDepth 100000
set_option maxHeartbeats 400000
structure RangeOk (qs : List Int) : Prop where
  h : ∀ y ∈ qs, 1024 ≤ y ∧ y < 1028
theorem FreeOK.range {qs : List Int} {held : List (Int × Str)} {fr : Int} (fo : FreeOK qs held fr) : RangeOk qs := ⟨fun y hy => by
  have h1 := (ports_mem (x := y) fo.lo).mp (fo.pr.mem_iff.mp (List.mem_append.mpr (.inl hy)))
  have h2 := fo.hi
  omega⟩
theorem FreeOK.range2 {qs : List Int} {held : List (Int × Str)} {fr p : Int} {nm : Str} {k : Nat} (fo : FreeOK qs held fr) (hk : held[k]? = some (p, nm)) : RangeOk (p :: qs) := ⟨fun y hy => by
  have h1 := (ports_mem (x := y) fo.lo).mp (fo.pr.mem_iff.mp (by
    rcases List.mem_cons.mp hy with rfl | hy
    · exact List.mem_append.mpr (.inr (List.mem_map.mpr ⟨_, List.mem_of_getElem? hk, rfl⟩))
    · exact List.mem_append.mpr (.inl hy)))
  have h2 := fo.hi
  omega⟩
section
variable {w : World} {mean : ExcName → Option Value} {mg mb : Str → Option Value} {dp un : Nat} {gd : Option (List Code)} {cn : Str} {cs : Scope} {a : Addr} {ccd : Value} {cl : List (Str × Addr)} {outer : List Env} {A₀ : Around} {base h₀ : Heap} {L : Addr} {m : Str → Option Value} {news : List (Addr × Obj)} {s : Shared} {Q E : Value → Shared → Prop} {hnd : Option Value}
variable {lf : Addr} {n : Nat} {vs : List Value} {ns : List Int} {v : Int} {t : Tok} {g : Obj → List (Addr × Obj)}
theorem pop_R (hlen : 0 < ns.length) (hI : IntsAre vs ns) (hH : HeapOk ns) (hR : RangeOk ns)
   (B : Below A₀ base outer h₀) (F : Fr h₀ L s.heap m) (X : (hd.heap_39 w.params).In h₀) (N : News h₀ L s.heap news) (U : UpdF lf (listOf vs.toArray n) news g) (T : Top hd.view_39 (looseW hd.view_39 []) mean mg mb h₀) (hk : cs.kind = .function)
   (hdp : dp + 3 < recursionLimit) (hun : un + 24 < cLine)
   (ret : ∀ vs' n' ns' r t' h' tk', IntsAre vs' ns' → (r :: ns').Perm ns → HeapOk ns' → (∀ x ∈ ns, r ≤ x) → 1024 ≤ r → r < 1028 → decide ((0 : Int) < r) = true → Fr h₀ L h' m → News h₀ L h' (g (listOf vs'.toArray n')) → Q (.int r t') { s with heap := h', toks := tk' }) :
   wpAny (model Challenge.rw_pd0171_01.row.prog w) (topH hnd dp un gd cn cs L a ccd cl outer) (call (.ref 86) [.ref lf]) Q E s :=
  pop_K hlen hI hH B F X N U T hk hdp hun fun vs' n' ns' r t' h' tk' a1 a2 a3 a4 a5 a6 =>
    have hr := hR.h r (a2.mem_iff.mp (.head _))
    ret vs' n' ns' r t' h' tk' a1 a2 a3 a4 hr.1 hr.2 (decide_eq_true (by omega)) a5 a6
theorem pushpop_R (hlen : ns.length ≤ 3) (hI : IntsAre vs ns) (hH : HeapOk ns) (hR : RangeOk (v :: ns))
   (B : Below A₀ base outer h₀) (F : Fr h₀ L s.heap m) (X : (hd.heap_39 w.params).In h₀) (N : News h₀ L s.heap news) (U : UpdF lf (listOf vs.toArray n) news g) (T : Top hd.view_39 (looseW hd.view_39 []) mean mg mb h₀) (hk : cs.kind = .function)
   (hdp : dp + 3 < recursionLimit) (hun : un + 24 < cLine)
   (ret : ∀ vs' n' ns' r t' h' tk', IntsAre vs' ns' → (r :: ns').Perm (v :: ns) → HeapOk ns' → (∀ x ∈ v :: ns, r ≤ x) → 1024 ≤ r → r < 1028 → Fr h₀ L h' m → News h₀ L h' (g (listOf vs'.toArray n')) → Q (.int r t') { s with heap := h', toks := tk' }) :
   wpAny (model Challenge.rw_pd0171_01.row.prog w) (ktrTop dp un gd cn cs L a ccd cl outer) (call (.ref 93) [.ref lf, .int v t]) Q E s :=
  pushpop_K hlen hI hH B F X N U T hk hdp hun fun vs' n' ns' r t' h' tk' a1 a2 a3 a4 a5 a6 =>
    have hr := hR.h r (a2.mem_iff.mp (.head _))
    ret vs' n' ns' r t' h' tk' a1 a2 a3 a4 hr.1 hr.2 a5 a6
theorem off_7 {ll lh lq lw lf2 lnum It : Addr} {o1 o2 o3 oI : Obj} {tl : List (Addr × Obj)} (lo : @Ne Nat lw ll ∧ @Ne Nat lf2 ll ∧ @Ne Nat lnum ll ∧ @Ne Nat lw lh ∧ @Ne Nat lf2 lh ∧ @Ne Nat lnum lh ∧ @Ne Nat lw lq ∧ @Ne Nat lf2 lq ∧ @Ne Nat lnum lq)
    (hI : @Ne Nat ll It ∧ @Ne Nat lh It ∧ @Ne Nat lq It ∧ @Ne Nat lw It ∧ @Ne Nat lf2 It ∧ @Ne Nat lnum It) (ho : OwnOff tl [ll, lh, lq]) : OwnOff ((lw, o1) :: (lf2, o2) :: (lnum, o3) :: (It, oI) :: tl) [ll, lh, lq] := by
  obtain ⟨a1, a2, a3, a4, a5, a6, a7, a8, a9⟩ := lo
  obtain ⟨b1, b2, b3, b4, b5, b6⟩ := hI
  intro p hp b hb
  simp only [List.mem_cons, List.not_mem_nil, or_false] at hb
  rcases List.mem_cons.mp hp with rfl | hp
  · rcases hb with rfl | rfl | rfl
    · exact a1
    · exact a4
    · exact a7
  · rcases List.mem_cons.mp hp with rfl | hp
    · rcases hb with rfl | rfl | rfl
      · exact a2
      · exact a5
      · exact a8
    · rcases List.mem_cons.mp hp with rfl | hp
      · rcases hb with rfl | rfl | rfl
        · exact a3
        · exact a6
        · exact a9
      · rcases List.mem_cons.mp hp with rfl | hp
        · rcases hb with rfl | rfl | rfl
          · exact b1.symm
          · exact b2.symm
          · exact b3.symm
        · exact ho p hp b (by simpa using hb)
theorem ne3 {ll lh lq : Addr} {T : Nat} {X : Prop} (h : @LT.lt Nat _ ll T ∧ @LT.lt Nat _ lh T ∧ @LT.lt Nat _ lq T ∧ X) : ∀ b ∈ [ll, lh, lq], (T : Addr) ≠ b := by
  intro b hb
  simp only [List.mem_cons, List.not_mem_nil, or_false] at hb
  rcases hb with rfl | rfl | rfl
  · exact Nat.ne_of_gt h.1
  · exact Nat.ne_of_gt h.2.1
  · exact Nat.ne_of_gt h.2.2.1
theorem ne3n {ll lh lq : Addr} {T : Nat} (h1 : @Ne Nat T ll) (h2 : @Ne Nat T lh) (h3 : @Ne Nat T lq) : ∀ b ∈ [ll, lh, lq], (T : Addr) ≠ b := by
  intro b hb
  simp only [List.mem_cons, List.not_mem_nil, or_false] at hb
  rcases hb with rfl | rfl | rfl
  · exact h1
  · exact h2
  · exact h3
theorem l_popAs {prog : Program} {w : World} {A : Around} {E : Value → Shared → Prop} {s : Shared} {h₀ : Heap} {L D : Addr} {m : Str → Option Value} {news news' : List (Addr × Obj)} {p q zs : List Value} {y : Value} {n : Nat} {i : Int} {u : Tok} {Q : Value → Shared → Prop} (F : Fr h₀ L s.heap m) (N : News h₀ L s.heap news) (hi : i = (p.length : Int)) (hv : p ++ q = zs) (U : Upd D (listOf (p ++ y :: q).toArray n) (listOf zs.toArray (n + 1)) news news') (hz : p.length + q.length ≤ 10000)
    (h : ∀ h', Fr h₀ L h' m → News h₀ L h' news' → Q y { s with heap := h' }) : wpAny (model prog w) A (call (.builtin "list.pop") [.ref D, .int i u]) Q E s := by
  subst hv
  exact l_popAt F N hi U hz h
/-- the answers of a mark and a name -/
structure OkFor (c : Nat) (nm : Str) : Prop where
  h : ∀ p, 1024 ≤ p → p < 1028 → P229Ok (pre229 c p ++ nm) p
theorem p229ok_at {c : Nat} {nm host : Str} {p : Int} {t th ti : Tok} {pa : Addr} (ho : OkFor c nm) (h1 : 1024 ≤ p) (h2 : p < 1028)
   (B : Below A₀ base outer h₀) (F : Fr h₀ L s.heap m) (X : (hd.heap_39 w.params).In h₀) (N : News h₀ L s.heap news) (T : Top hd.view_39 (looseW hd.view_39 []) mean mg mb h₀) (hk : cs.kind = .function)
   (hdp : dp + 1 < recursionLimit) (hun : un + 8 < cLine) (hpa : (pa, ({ cls := .type "tuple", data := .seq #[.str host th, .int 21 ti] } : Obj)) ∈ news)
   (ret : ∀ r t' h' tk', (∀ p ∈ news, p.1 ≠ r) → Fr h₀ L h' m → News h₀ L h' ((r, { cls := .type "tuple", data := .seq #[.str host th, .int p t'] }) :: news) → Q (.ref r) { s with heap := h', toks := tk' }) :
   wpAny (model Challenge.rw_pd0171_01.row.prog w) (ktrTop dp un gd cn cs L a ccd cl outer) (call (.ref 65) [.str (pre229 c p ++ nm) t, .ref pa]) Q E s :=
  p229ok_as (ho.h p h1 h2) B F X N T hk hdp hun hpa ret
end
end
local macro_rules | `(tactic| k_mem) => `(tactic| ((repeat (refine List.mem_cons_of_mem _ ?_)); assumption))
section
open PySem PySem.W PyProof.Rows PySem.Calls PySem.Spec
set_option maxRecDepth 100000
set_option maxHeartbeats 0
theorem lines_C12p_1 : True := by
  k_with_none
  k_with "eval Constant int" => (refine flat_int ?_)
  k_with "eval Constant str" => (refine flat_str ?_)
  k_with "call builtin:issubclass" => (k_here; k_dflt (refine' issub_call ?kqk1 ?_; (case kqk1 => exact News.get (by k_asm) (by k_mem)); k_whole); intro tk)
  k_with "callWith" => (k_here; (with_reducible show wpAny _ _ (callWith _ (Value.builtin _) (_ :: _) _ _) _ _ _); refine callWith_method1 ?_)
  trivial
section
variable {w : World} {mean : ExcName → Option Value} {mg mb : Str → Option Value} {dp un : Nat} {gd : Option (List Code)} {cn : Str} {cs : Scope} {a : Addr} {ccd : Value} {cl : List (Str × Addr)} {outer : List Env} {A₀ : Around} {base h₀ : Heap} {L : Addr} {m : Str → Option Value} {news : List (Addr × Obj)} {s : Shared} {Q E : Value → Shared → Prop}
theorem lines_C12p_2 : True := by
  k_with "exec Try" => (k_here; (refine hold_it ?_))
  k_with "call ref" => (k_here; (with_reducible show wpAny _ _ (call (Value.ref 201) _) _ _ _); k_dflt (refine' join_spec ?kqh1 ?kqh2 ?kqh3 ?kqk1 ?kqk2 ?kqk3 ?kqk4 ?kqk5 ?kqkK ?kqkd ?kqku ?_; (case kqh1 => omega); (case kqh2 => omega); (case kqh3 => omega); (case kqk1 => k_asm); (case kqk2 => k_asm); (case kqk3 => k_asm); (case kqk4 => k_asm); (case kqk5 => k_asm); (case kqkK => first | exact rfl | assumption); (case kqkd => ktr_room); (case kqku => ktr_units); k_whole); intro t' h' tk' F' N'; (try k_sweep))
  k_with "call ref" => (k_here; (with_reducible show wpAny _ _ (call (Value.ref 215) _) _ _ _); k_dflt (refine' norm_as ?kqh1 ?kqk1 ?kqk2 ?kqk3 ?kqk4 ?kqk5 ?kqkK ?kqkd ?kqku ?_; (case kqh1 => assumption); (case kqk1 => k_asm); (case kqk2 => k_asm); (case kqk3 => k_asm); (case kqk4 => k_asm); (case kqk5 => k_asm); (case kqkK => first | exact rfl | assumption); (case kqkd => ktr_room); (case kqku => ktr_units); k_whole); intro t' h' tk' F' N'; (try k_sweep))
  k_with "call ref" => (k_here; (with_reducible show wpAny _ _ (call (Value.ref 229) _) _ _ _); k_dflt (refine' answer_spec ?kqh1 ?kqh2 ?kqh3 ?kqk1 ?kqk2 ?kqk3 ?kqk4 ?kqk5 ?kqkK ?kqkd ?kqku ?_; (case kqh1 => omega); (case kqh2 => omega); (case kqh3 => omega); (case kqk1 => k_asm); (case kqk2 => k_asm); (case kqk3 => k_asm); (case kqk4 => k_asm); (case kqk5 => k_asm); (case kqkK => first | exact rfl | assumption); (case kqkd => ktr_room); (case kqku => ktr_units); k_whole); intro t' h' tk' F' N'; (try k_sweep))
  k_with "call ref" => (k_here; (with_reducible show wpAny _ _ (call (Value.ref 65) _) _ _ _); k_dflt (refine' p229ok_at ?kqho ?kqh1 ?kqh2 ?kqk1 ?kqk2 ?kqk3 ?kqk4 ?kqk5 ?kqkK ?kqkd ?kqku ?kqkm ?_; (case kqho => assumption); (case kqh1 => assumption); (case kqh2 => assumption); (case kqk1 => k_asm); (case kqk2 => k_asm); (case kqk3 => k_asm); (case kqk4 => k_asm); (case kqk5 => k_asm); (case kqkK => first | exact rfl | assumption); (case kqkd => ktr_room); (case kqku => ktr_units); (case kqkm => k_mem); k_whole); intro r' t' h' tk' D' F' N'; (replace D' := allNeA_of D'); (simp only [AllNeA, and_true] at D'); (repeat (obtain ⟨_, D'⟩ := D')); (try k_sweep))
  k_with "call ref" => (k_here; (with_reducible show wpAny _ _ (call (Value.ref 79) _) _ _ _); k_dflt (refine' push_K ?kqh1 ?kqh2 ?kqh3 ?kqk1 ?kqk2 ?kqk3 ?kqk4 ?kqkU ?kqk5 ?kqkK ?kqkd ?kqku ?_; (case kqk1 => k_asm); (case kqk2 => k_asm); (case kqk3 => k_asm); (case kqk4 => k_asm); (case kqkU => k_updF); (case kqh2 => assumption); (case kqh1 => omega); (case kqh3 => assumption); (case kqk5 => k_asm); (case kqkK => first | exact rfl | assumption); (case kqkd => ktr_room); (case kqku => ktr_units); k_whole); intro vs' n' ns' h' tk' I' P' H' F' N'; (try k_sweep))
  k_with "call ref" => (k_here; (with_reducible show wpAny _ _ (call (Value.ref 86) _) _ _ _); k_dflt (refine' pop_R ?kqh1 ?kqh2 ?kqh3 ?kqhR ?kqk1 ?kqk2 ?kqk3 ?kqk4 ?kqkU ?kqk5 ?kqkK ?kqkd ?kqku ?_; (case kqk1 => k_asm); (case kqk2 => k_asm); (case kqk3 => k_asm); (case kqk4 => k_asm); (case kqkU => k_updF); (case kqh2 => assumption); (case kqh1 => omega); (case kqh3 => assumption); (case kqk5 => k_asm); (case kqkK => first | exact rfl | assumption); (case kqkd => ktr_room); (case kqku => ktr_units); (case kqhR => assumption); k_whole); intro vs' n' ns' r' t' h' tk' I' P' H' M' R1' R2' G' F' N'; (try k_sweep))
  k_with "call ref" => (k_here; (with_reducible show wpAny _ _ (call (Value.ref 93) _) _ _ _); k_dflt (refine' pushpop_R ?kqh1 ?kqh2 ?kqh3 ?kqhR ?kqk1 ?kqk2 ?kqk3 ?kqk4 ?kqkU ?kqk5 ?kqkK ?kqkd ?kqku ?_; (case kqk1 => k_asm); (case kqk2 => k_asm); (case kqk3 => k_asm); (case kqk4 => k_asm); (case kqkU => k_updF); (case kqh2 => assumption); (case kqh1 => omega); (case kqh3 => assumption); (case kqk5 => k_asm); (case kqkK => first | exact rfl | assumption); (case kqkd => ktr_room); (case kqku => ktr_units); (case kqhR => assumption); k_whole); intro vs' n' ns' r' t' h' tk' I' P' H' M' R1' R2' F' N'; (try k_sweep))
  k_with "binaryOp Mod int int" => (k_here; k_dflt (refine' s_mod ?kqf ?kqb ?_; (case kqf => assumption); (case kqb => omega); k_whole); intro t' k')
  k_with "binaryOp FloorDiv int int" => (k_here; k_dflt (refine' s_div ?kqf ?kqb ?kqc ?_; (case kqf => assumption); (case kqb => omega); (case kqc => omega); k_whole); intro t' k')
  k_with "subscriptTail Name BinOp ref int" => (k_here; k_dflt (refine' l_itemAs ?kqh ?kqn ?kqm ?_ ?kqk6; (case kqn => k_asm); (case kqm => k_mem); (case kqh => assumption); (case kqk6 => with_unfolding_all rfl); k_whole))
  k_with "subscriptTail Constant" => (k_here; k_dflt (refine' s_item ?kqz0 ?kqz1 ?kqz2 ?kqz ?_ ?kqy1 ?kqy2; (case kqz => assumption); (case kqz0 => omega); (case kqz1 => omega); (case kqz2 => omega); (case kqy1 => with_unfolding_all rfl); (case kqy2 => (intro _; with_unfolding_all rfl)); k_whole); intro t' k')
  k_with "subscriptTail Call Constant ref int" => (k_here; k_dflt (refine' l_tup0 ?kqn ?kqm ?_ ?kqk6; (case kqn => k_asm); (case kqm => k_mem); (case kqk6 => with_unfolding_all rfl); k_whole))
  k_with "compareOp NotEq ref ref" => (k_here; k_dflt (refine' l_neNil ?kqn ?kqm ?kqm2 ?kqhh ?kqht ?kqho ?kqhu ?kqhb ?_; (case kqn => k_asm); (case kqm => k_mem); (case kqm2 => k_mem); (case kqhh => assumption); (case kqht => (intro p hp; k_mem)); (case kqho => assumption); (case kqhb => assumption); (case kqhu => ktr_units); k_whole))
  k_with "compareOp NotEq ref ref" => (k_here; k_dflt (refine' l_neInts ?kqn ?kqm ?kqm2 ?kqhI ?kqhu ?kqhb ?_; (case kqn => k_asm); (case kqm => k_mem); (case kqm2 => k_mem); (case kqhI => assumption); (case kqhb => assumption); (case kqhu => ktr_units); k_whole))
  k_with "call builtin:len" => (k_here; k_dflt (refine' l_len ?kqn ?kqm ?kqz ?_; (case kqn => k_asm); (case kqm => k_mem); (case kqz => omega); k_whole); intro t' k')
  k_with "call builtin:list.append" => (k_here; k_dflt (refine' l_append ?kqk1 ?kqk2 ?kqk3 ?kqz ?_; (case kqk1 => k_asm); (case kqk2 => k_asm); (case kqk3 => k_upd); (case kqz => first | (simp only [List.length_append, List.length_cons, List.length_nil]; omega) | omega); k_whole); intro h' F' N'; (try k_sweep))
  k_with "call builtin:list.pop" => (k_here; k_dflt (refine' l_popAt ?kqk1 ?kqk2 ?kqe ?kqk3 ?kqz ?_; (case kqk1 => k_asm); (case kqk2 => k_asm); (case kqk3 => k_upd); (case kqe => assumption); (case kqz => omega); k_whole); intro h' F' N'; (try k_sweep))
  k_with "compareOp Eq int int" => (k_here; refine' s_eqI ?kqf ?_; (case kqf => with_reducible assumption); k_whole)
  k_with "compareOp Lt int int" => (k_here; refine' s_ltI ?kqf ?_; (case kqf => with_reducible assumption); k_whole)
  k_with "compareOp NotEq int int" => (k_here; refine' s_neI ?kqf ?_; (case kqf => with_reducible assumption); k_whole)
  k_with "compareOp Gt int int" => (k_here; refine' s_gtI ?kqf ?_; (case kqf => with_reducible assumption); k_whole)
  k_with "execs cons" => (k_here; (with_reducible show wpAny _ _ (execs [Stmt.If _ _ _ _] _) _ _ _); (refine hold_it ?_))
  trivial
noncomputable def talkLast (P : Params) : List Stmt := lastOf (forBody (fnBody P 236))
theorem talk_pre {g₀ g h : Heap} {L₂ lq lh ll lw lf lnum It : Addr} {oI : Obj} {QG : Flow → Shared → Prop} {ns qs : List Int} {mz m₁ : Str → Option Value} {i j k3 c : Nat} {x v κ fr : Int} {wd fd : Str} {t tw tf tfr tpl : Tok} {vH vQ vL vw vf vsN : List Value} {nH nQ nL nw nf n tk : Nat} {tl : List (Addr × Obj)} {d : DS}
   (XB : (hd.heap_39 w.params).In base) (TB : Top hd.view_39 (looseW hd.view_39 []) mean mg mb base) (B : Below (ktrTop dp un gd cn cs L a ccd [] []) base [envOf cn cs L a ccd] g) (X : (hd.heap_39 w.params).In g) (T : Top hd.view_39 (looseW hd.view_39 []) mean mg mb g) (D : KtsDicts ([envOf cn cs L a ccd].filterMap (·.frame)) g) (K : KtsTurn ([envOf cn cs L a ccd].filterMap (·.frame)) g₀ g) (hk : cs.kind = .function) (hdp : dp + 6 < recursionLimit) (hun : un + 100 < cLine)
   (FF : TalkF i x v κ j k3 c wd fd tw tf qs vH vQ vL vw vf d)
   (F1 : Fr g L₂ h (fun y => if y = Str.ofString "x" then some (.int x t) else talkFr mz m₁ lq lh ll lw lf fr tfr (PP d.names) tpl y))
   (N1 : News g L₂ h ((ll, listOf vL.toArray nL) :: (lh, listOf vH.toArray nH) :: (lq, listOf vQ.toArray nQ) :: (lw, listOf vw.toArray nw) :: (lf, listOf vf.toArray nf) :: (lnum, listOf vsN.toArray n) :: (It, oI) :: tl))
   (cont : ∀ h' tk' u1 u2 u3 u4, Fr g L₂ h' (fun y => if y = Str.ofString "name" then some (.str (PP (filesGo j d.names)) u4) else if y = Str.ofString "mark" then some (.str ⟨#[c]⟩ u3) else if y = Str.ofString "value" then some (.int v u2) else if y = Str.ofString "kind" then some (.int κ u1) else if y = Str.ofString "x" then some (.int x t) else talkFr mz m₁ lq lh ll lw lf fr tfr (PP d.names) tpl y) →
     News g L₂ h' ((ll, listOf vL.toArray nL) :: (lh, listOf vH.toArray nH) :: (lq, listOf vQ.toArray nQ) :: (lw, listOf vw.toArray nw) :: (lf, listOf vf.toArray nf) :: (lnum, listOf vsN.toArray n) :: (It, oI) :: tl) →
     wpAny (model Challenge.rw_pd0171_01.row.prog w) ((ktrTop dp un gd cn cs L a ccd [] []).deeper (envOf (Str.ofString "_law_talk") (fnScope w.params 236) L₂ 236 (.ref 235))) (execs (talkLast w.params) (envOf (Str.ofString "_law_talk") (fnScope w.params 236) L₂ 236 (.ref 235))) QG (fun _ _ => False) { s with heap := h', toks := tk' }) :
   wpAny (model Challenge.rw_pd0171_01.row.prog w) ((ktrTop dp un gd cn cs L a ccd [] []).deeper (envOf (Str.ofString "_law_talk") (fnScope w.params 236) L₂ 236 (.ref 235))) (execs (forBody (fnBody w.params 236)) (envOf (Str.ofString "_law_talk") (fnScope w.params 236) L₂ 236 (.ref 235))) QG E { s with heap := h, toks := tk } := by
  revert X
  k_fill
  intro X
  refine noE ?_
  obtain ⟨hok, hk6, hkk, hv, hv2, hj, hj5, hj2, hm2, hm3, hm4, hmk, hW, hF, lH, lL, lQ, b2, b3, b4, hho, lp, lp0, lw1, lf1, nF, nFl, hOk0⟩ := FF
  clear hOk0
  (with_unfolding_all conv in (forBody _) => whnf)
  (with_unfolding_all conv in (occs := *) (fnScope _ _) => all_goals whnf)
  k_steps
  unfold Hold
  exact cont _ _ _ _ _ _ (by k_asm) (by assumption)
end
end
section
open PySem PySem.W PyProof.Rows PySem.Calls PySem.Spec PyProof.V
set_option maxRecDepth 100000
set_option maxHeartbeats 400000
section
variable {prog : Program} {w : World} {A : Around} {E : Value → Shared → Prop} {s : Shared} {a b c : Int} {t u : Tok} {Q : Value → Shared → Prop}
/-! the same rules, with what they say of the tokens -/
theorem s_modT (hf : a.fmod b = c) (hb : b ≠ 0) (h : ∀ t' k, s.toks ≤ k → Q (.int c t') { s with toks := k }) : wpAny (model prog w) A (binaryOp .Mod (.int a t) (.int b u)) Q E s :=
  wpAny_with_toks (Nat.le_refl _) (s_mod hf hb fun t' k hk => h t' k hk)
end
section
variable {w : World} {mean : ExcName → Option Value} {mg mb : Str → Option Value} {dp un : Nat} {gd : Option (List Code)} {cn : Str} {cs : Scope} {a : Addr} {ccd : Value} {cl : List (Str × Addr)} {outer : List Env} {A₀ : Around} {base h₀ : Heap} {L : Addr} {m : Str → Option Value} {news : List (Addr × Obj)} {s : Shared} {Q E : Value → Shared → Prop}
theorem join_T {x y : Str} {t u : Tok} (hx : x.length ≤ 400) (hy : y.length ≤ 400) (hx0 : 0 < x.length)
   (B : Below A₀ base outer h₀) (F : Fr h₀ L s.heap m) (X : (hd.heap_39 w.params).In h₀) (N : News h₀ L s.heap news) (T : Top hd.view_39 (looseW hd.view_39 []) mean mg mb h₀) (hk : cs.kind = .function)
   (hdp : dp + 2 < recursionLimit) (hun : un + 16 < cLine)
   (ret : ∀ t' h' tk', s.toks ≤ tk' → Fr h₀ L h' m → News h₀ L h' news → Q (.str (joinP x y) t') { s with heap := h', toks := tk' }) :
   wpAny (model Challenge.rw_pd0171_01.row.prog w) (ktrTop dp un gd cn cs L a ccd cl outer) (call (.ref 201) [.str x t, .str y u]) Q E s :=
  wpAny_with_toks (Nat.le_refl _) (join_spec hx hy hx0 B F X N T hk hdp hun fun t' h' tk' F' N' hk' => ret t' h' tk' hk' F' N')
theorem norm_T {x y : Str} {t : Tok} (hi : NormIs x y)
   (B : Below A₀ base outer h₀) (F : Fr h₀ L s.heap m) (X : (hd.heap_39 w.params).In h₀) (N : News h₀ L s.heap news) (T : Top hd.view_39 (looseW hd.view_39 []) mean mg mb h₀) (hk : cs.kind = .function)
   (hdp : dp + 3 < recursionLimit) (hun : un + 24 < cLine)
   (ret : ∀ t' h' tk', s.toks ≤ tk' → Fr h₀ L h' m → News h₀ L h' news → Q (.str y t') { s with heap := h', toks := tk' }) :
   wpAny (model Challenge.rw_pd0171_01.row.prog w) (ktrTop dp un gd cn cs L a ccd cl outer) (call (.ref 215) [.str x t]) Q E s :=
  wpAny_with_toks (Nat.le_refl _) (norm_as hi B F X N T hk hdp hun fun t' h' tk' F' N' hk' => ret t' h' tk' hk' F' N')
end
end
section
open PySem PySem.W PyProof.Rows PySem.Calls PySem.Spec PyProof.V
open Builtin Builtin.Str
set_option maxRecDepth 100000
set_option maxHeartbeats 400000
/-- an answer spoiled: r is x with the first y struck by z -/
structure WrongIs (x y z r : Str) : Prop where
  hr : replace1 x y z = r
  lr : r.length ≤ 2000
  ho : (occurrences x y 0 x.length 1).isEmpty = false
  hy : (y.length == 0) = false
  hyz : (y == z) = false
  hx : x.length ≤ 2000
  hz : z.length ≤ 10
  bad : P229Bad r
section
variable {prog : Program} {w : World} {A : Around} {E : Value → Shared → Prop} {s : Shared} {h₀ : Heap} {L D : Addr} {news : List (Addr × Obj)} {x y z r : Str} {a b : Value} {t u v c : Tok} {Q : Value → Shared → Prop} {value slice : PySem.Expr}
theorem s_replaceW (hw : WrongIs x y z r) (hu : u ≠ 0) (hv : v ≠ 0) (huv : u ≠ v)
    (h : ∀ t' k, Q (.str r t') { s with toks := k }) : wpAny (model prog w) A (call (.builtin "str.replace") [.str x t, .str y u, .str z v, .int 1 c]) Q E s :=
  s_replace1 hw.hr (Nat.le_trans hw.lr (by decide)) hw.ho hw.hy hu hv huv hw.hyz hw.hx hw.hz h
theorem l_tup1 (N : News h₀ L s.heap news) (hm : (D, ({ cls := .type "tuple", data := .seq #[a, b] } : Obj)) ∈ news) (h : Q b s)
    (hs : subscripted slice false (.ref D) (.int 1 u) = operate [.ref D, .int 1 u] (getItem (.ref D) (.int 1 u)) := by with_unfolding_all rfl) : wpAny (model prog w) A (subscriptTail value slice (.ref D) (.int 1 u)) Q E s :=
  item_tupleT (l := [a, b]) (by exact ⟨_, (N _ hm).1, rfl, 0, rfl⟩) (by decide) (by decide) rfl rfl h hs
end
theorem frameIs_more {ps : List (Str × Value)} {stored : List Str} {m₀ m m' : Str → Option Value} (H : FrameIs ps stored m₀ m) (hm : ∀ z, stored.contains z = false → m' z = m z) (hp : ∀ p ∈ ps, stored.contains p.1 = false) : FrameIs ps stored m₀ m' :=
  ⟨fun p h => (hm _ (hp p h)).trans (H.1 p h), fun z h1 h2 => (hm z h2).trans (H.2 z h1 h2)⟩
end
section
open PySem PySem.W PyProof.Rows PySem.Calls PySem.Spec
set_option maxRecDepth 100000
set_option maxHeartbeats 0
theorem lines_Tt_bad_1 : True := by
  k_with_none
  k_with "eval Constant int" => (refine flat_int ?_)
  k_with "eval Constant str" => (refine flat_str ?_)
  k_with "call builtin:issubclass" => (k_here; k_dflt (refine' issub_call ?kqk1 ?_; (case kqk1 => exact News.get (by k_asm) (by k_mem)); k_whole); intro tk)
  k_with "callWith" => (k_here; (with_reducible show wpAny _ _ (callWith _ (Value.builtin _) (_ :: _) _ _) _ _ _); refine callWith_method1 ?_)
  trivial
section
variable {w : World} {mean : ExcName → Option Value} {mg mb : Str → Option Value} {dp un : Nat} {gd : Option (List Code)} {cn : Str} {cs : Scope} {a : Addr} {ccd : Value} {cl : List (Str × Addr)} {outer : List Env} {A₀ : Around} {base h₀ : Heap} {L : Addr} {m : Str → Option Value} {news : List (Addr × Obj)} {s : Shared} {Q E : Value → Shared → Prop}
theorem lines_Tt_bad_2 : True := by
  k_with "call ref" => (k_here; k_dflt (refine' p229ok_as ?kqhi ?kqk1 ?kqk2 ?kqk3 ?kqk4 ?kqk5 ?kqkK ?kqkd ?kqku ?kqkm ?_; (case kqhi => assumption); (case kqk1 => k_asm); (case kqk2 => k_asm); (case kqk3 => k_asm); (case kqk4 => k_asm); (case kqk5 => k_asm); (case kqkK => first | exact rfl | assumption); (case kqkd => ktr_room); (case kqku => ktr_units); (case kqkm => k_mem); k_whole); intro r' t' h' tk' D' F' N'; (replace D' := allNe_of D'); (simp only [AllNe, and_true] at D'); (try k_sweep))
  k_with "call ref" => (k_here; k_dflt (refine' p229no_as ?kqhi ?kqk1 ?kqk2 ?kqk3 ?kqk4 ?kqk5 ?kqkK ?kqkd ?kqku ?_; (case kqhi => assumption); (case kqk1 => k_asm); (case kqk2 => k_asm); (case kqk3 => k_asm); (case kqk4 => k_asm); (case kqk5 => k_asm); (case kqkK => first | exact rfl | assumption); (case kqkd => ktr_room); (case kqku => ktr_units); k_whole); intro g' e' ta' h' tk' F' R' U')
  k_with "call ref" => (k_here; k_dflt (refine' p229bad_as ?kqhi ?kqk1 ?kqk2 ?kqk3 ?kqk4 ?kqk5 ?kqkK ?kqkd ?kqku ?_; (case kqhi => assumption); (case kqk1 => k_asm); (case kqk2 => k_asm); (case kqk3 => k_asm); (case kqk4 => k_asm); (case kqk5 => k_asm); (case kqkK => first | exact rfl | assumption); (case kqkd => ktr_room); (case kqku => ktr_units); k_whole); intro g' e' ta' h' tk' F' R' U')
  k_with "call ref" => (k_here; k_dflt (refine' push_K ?kqh1 ?kqh2 ?kqh3 ?kqk1 ?kqk2 ?kqk3 ?kqk4 ?kqkU ?kqk5 ?kqkK ?kqkd ?kqku ?_; (case kqk1 => k_asm); (case kqk2 => k_asm); (case kqk3 => k_asm); (case kqk4 => k_asm); (case kqkU => k_updF); (case kqh2 => assumption); (case kqh1 => omega); (case kqh3 => assumption); (case kqk5 => k_asm); (case kqkK => first | exact rfl | assumption); (case kqkd => ktr_room); (case kqku => ktr_units); k_whole); intro vs' n' ns' h' tk' I' P' H' F' N'; (try k_sweep))
  k_with "call builtin:list.append" => (k_here; k_dflt (refine' l_append ?kqk1 ?kqk2 ?kqk3 ?kqz ?_; (case kqk1 => k_asm); (case kqk2 => k_asm); (case kqk3 => k_upd); (case kqz => omega); k_whole); intro h' F' N'; (try k_sweep))
  trivial
theorem try_bad {g₀ g h : Heap} {L₂ lq lh ll : Addr} {x nm : Str} {tx tn tp : Tok} {p : Int} {mz : Str → Option Value} {qs : List Int} {vH vQ vL : List Value} {nH nQ nL tk : Nat} {rest : List (Addr × Obj)} {QF : Flow → Shared → Prop} (hb : P229Bad x) (hl : qs.length ≤ 3) (hI : IntsAre vQ qs) (hH : HeapOk qs) (lLe : vL.length ≤ 1000) (lHe : vH.length ≤ 1000)
   (XB : (hd.heap_39 w.params).In base) (TB : Top hd.view_39 (looseW hd.view_39 []) mean mg mb base) (B : Below (ktrTop dp un gd cn cs L a ccd [] []) base [envOf cn cs L a ccd] g) (X : (hd.heap_39 w.params).In g) (T : Top hd.view_39 (looseW hd.view_39 []) mean mg mb g) (D : KtsDicts ([envOf cn cs L a ccd].filterMap (·.frame)) g) (K : KtsTurn ([envOf cn cs L a ccd].filterMap (·.frame)) g₀ g) (hk : cs.kind = .function) (hdp : dp + 6 < recursionLimit) (hun : un + 100 < cLine)
   (F : Fr g L₂ h (kstB mz (tryPs lq lh ll x nm tx tn p tp))) (N : News g L₂ h ((ll, listOf vL.toArray nL) :: (lh, listOf vH.toArray nH) :: (lq, listOf vQ.toArray nQ) :: rest))
   (no : @Ne Nat lh ll ∧ @Ne Nat lq ll ∧ @Ne Nat lq lh) (off : OwnOff rest [ll, lh, lq])
   (ret : ∀ g' h' tk' vQ' nQ' qs' t', IntsAre vQ' qs' → qs'.Perm (p :: qs) → HeapOk qs' → TalkG w mean mg mb (ktrTop dp un gd cn cs L a ccd [] []) base g₀ [envOf cn cs L a ccd] g' → Fr g' L₂ h' (kstB mz (tryPs lq lh ll x nm tx tn p tp)) →
     News g' L₂ h' ((ll, listOf (vL ++ [Value.str (Str.ofString "no mark") t']).toArray (nL + 1)) :: (lh, listOf vH.toArray nH) :: (lq, listOf vQ'.toArray nQ') :: rest) → QF .next { s with heap := h', toks := tk' }) :
   wpAny (model Challenge.rw_pd0171_01.row.prog w) ((ktrTop dp un gd cn cs L a ccd [] []).deeper (envOf (Str.ofString "_law_talk") (fnScope w.params 236) L₂ 236 (.ref 235))) (exec (talkTry1 w.params) (envOf (Str.ofString "_law_talk") (fnScope w.params 236) L₂ 236 (.ref 235))) QF E { s with heap := h, toks := tk } := by
  revert X
  k_fill
  intro X
  refine noE ?_
  (with_unfolding_all conv in (talkTry1 _) => whnf)
  (with_unfolding_all conv in (occs := *) (fnScope _ _) => all_goals whnf)
  k_steps
  exact ret _ _ _ _ _ _ _ (by assumption) (by assumption) (by assumption) ⟨by assumption, by assumption, by assumption, by assumption, by assumption⟩ (by k_asm) (news_tail (by assumption))
end
end
section
open PySem PySem.W PyProof.Rows PySem.Calls PySem.Spec
set_option maxRecDepth 100000
set_option maxHeartbeats 0
theorem lines_Tt_no_1 : True := by
  k_with_none
  k_with "eval Constant int" => (refine flat_int ?_)
  k_with "eval Constant str" => (refine flat_str ?_)
  k_with "call builtin:issubclass" => (k_here; k_dflt (refine' issub_call ?kqk1 ?_; (case kqk1 => exact News.get (by k_asm) (by k_mem)); k_whole); intro tk)
  k_with "callWith" => (k_here; (with_reducible show wpAny _ _ (callWith _ (Value.builtin _) (_ :: _) _ _) _ _ _); refine callWith_method1 ?_)
  trivial
section
variable {w : World} {mean : ExcName → Option Value} {mg mb : Str → Option Value} {dp un : Nat} {gd : Option (List Code)} {cn : Str} {cs : Scope} {a : Addr} {ccd : Value} {cl : List (Str × Addr)} {outer : List Env} {A₀ : Around} {base h₀ : Heap} {L : Addr} {m : Str → Option Value} {news : List (Addr × Obj)} {s : Shared} {Q E : Value → Shared → Prop}
theorem lines_Tt_no_2 : True := by
  k_with "call ref" => (k_here; k_dflt (refine' p229ok_as ?kqhi ?kqk1 ?kqk2 ?kqk3 ?kqk4 ?kqk5 ?kqkK ?kqkd ?kqku ?kqkm ?_; (case kqhi => assumption); (case kqk1 => k_asm); (case kqk2 => k_asm); (case kqk3 => k_asm); (case kqk4 => k_asm); (case kqk5 => k_asm); (case kqkK => first | exact rfl | assumption); (case kqkd => ktr_room); (case kqku => ktr_units); (case kqkm => k_mem); k_whole); intro r' t' h' tk' D' F' N'; (replace D' := allNe_of D'); (simp only [AllNe, and_true] at D'); (try k_sweep))
  k_with "call ref" => (k_here; k_dflt (refine' p229no_as ?kqhi ?kqk1 ?kqk2 ?kqk3 ?kqk4 ?kqk5 ?kqkK ?kqkd ?kqku ?_; (case kqhi => assumption); (case kqk1 => k_asm); (case kqk2 => k_asm); (case kqk3 => k_asm); (case kqk4 => k_asm); (case kqk5 => k_asm); (case kqkK => first | exact rfl | assumption); (case kqkd => ktr_room); (case kqku => ktr_units); k_whole); intro g' e' ta' h' tk' F' R' U')
  k_with "call ref" => (k_here; k_dflt (refine' p229bad_as ?kqhi ?kqk1 ?kqk2 ?kqk3 ?kqk4 ?kqk5 ?kqkK ?kqkd ?kqku ?_; (case kqhi => assumption); (case kqk1 => k_asm); (case kqk2 => k_asm); (case kqk3 => k_asm); (case kqk4 => k_asm); (case kqk5 => k_asm); (case kqkK => first | exact rfl | assumption); (case kqkd => ktr_room); (case kqku => ktr_units); k_whole); intro g' e' ta' h' tk' F' R' U')
  k_with "call ref" => (k_here; k_dflt (refine' push_K ?kqh1 ?kqh2 ?kqh3 ?kqk1 ?kqk2 ?kqk3 ?kqk4 ?kqkU ?kqk5 ?kqkK ?kqkd ?kqku ?_; (case kqk1 => k_asm); (case kqk2 => k_asm); (case kqk3 => k_asm); (case kqk4 => k_asm); (case kqkU => k_updF); (case kqh2 => assumption); (case kqh1 => omega); (case kqh3 => assumption); (case kqk5 => k_asm); (case kqkK => first | exact rfl | assumption); (case kqkd => ktr_room); (case kqku => ktr_units); k_whole); intro vs' n' ns' h' tk' I' P' H' F' N'; (try k_sweep))
  k_with "call builtin:list.append" => (k_here; k_dflt (refine' l_append ?kqk1 ?kqk2 ?kqk3 ?kqz ?_; (case kqk1 => k_asm); (case kqk2 => k_asm); (case kqk3 => k_upd); (case kqz => omega); k_whole); intro h' F' N'; (try k_sweep))
  trivial
theorem try_no {g₀ g h : Heap} {L₂ lq lh ll : Addr} {x nm : Str} {tx tn tp : Tok} {p : Int} {mz : Str → Option Value} {qs : List Int} {vH vQ vL : List Value} {nH nQ nL tk : Nat} {rest : List (Addr × Obj)} {QF : Flow → Shared → Prop} (hb : P229No x) (lLe : vL.length ≤ 1000) (lHe : vH.length ≤ 1000)
   (XB : (hd.heap_39 w.params).In base) (TB : Top hd.view_39 (looseW hd.view_39 []) mean mg mb base) (B : Below (ktrTop dp un gd cn cs L a ccd [] []) base [envOf cn cs L a ccd] g) (X : (hd.heap_39 w.params).In g) (T : Top hd.view_39 (looseW hd.view_39 []) mean mg mb g) (D : KtsDicts ([envOf cn cs L a ccd].filterMap (·.frame)) g) (K : KtsTurn ([envOf cn cs L a ccd].filterMap (·.frame)) g₀ g) (hk : cs.kind = .function) (hdp : dp + 6 < recursionLimit) (hun : un + 100 < cLine)
   (F : Fr g L₂ h (kstB mz (tryPs lq lh ll x nm tx tn p tp))) (N : News g L₂ h ((ll, listOf vL.toArray nL) :: (lh, listOf vH.toArray nH) :: (lq, listOf vQ.toArray nQ) :: rest))
   (no : @Ne Nat lh ll ∧ @Ne Nat lq ll ∧ @Ne Nat lq lh) (off : OwnOff rest [ll, lh, lq])
   (ret : ∀ g' h' tk' t', TalkG w mean mg mb (ktrTop dp un gd cn cs L a ccd [] []) base g₀ [envOf cn cs L a ccd] g' → Fr g' L₂ h' (kstB mz (tryPs lq lh ll x nm tx tn p tp)) →
     News g' L₂ h' ((ll, listOf (vL ++ [Value.str (Str.ofString "no more") t']).toArray (nL + 1)) :: (lh, listOf vH.toArray nH) :: (lq, listOf vQ.toArray nQ) :: rest) → QF .next { s with heap := h', toks := tk' }) :
   wpAny (model Challenge.rw_pd0171_01.row.prog w) ((ktrTop dp un gd cn cs L a ccd [] []).deeper (envOf (Str.ofString "_law_talk") (fnScope w.params 236) L₂ 236 (.ref 235))) (exec (talkTry1 w.params) (envOf (Str.ofString "_law_talk") (fnScope w.params 236) L₂ 236 (.ref 235))) QF E { s with heap := h, toks := tk } := by
  revert X
  k_fill
  intro X
  refine noE ?_
  (with_unfolding_all conv in (talkTry1 _) => whnf)
  (with_unfolding_all conv in (occs := *) (fnScope _ _) => all_goals whnf)
  k_steps
  exact ret _ _ _ _ ⟨by assumption, by assumption, by assumption, by assumption, by assumption⟩ (by k_asm) (news_tail (by assumption))
end
end
section
open PySem PySem.W PyProof.Rows PySem.Calls PySem.Spec
set_option maxRecDepth 100000
set_option maxHeartbeats 0
theorem lines_Tt_ok_1 : True := by
  k_with_none
  k_with "eval Constant int" => (refine flat_int ?_)
  k_with "eval Constant str" => (refine flat_str ?_)
  k_with "call builtin:issubclass" => (k_here; k_dflt (refine' issub_call ?kqk1 ?_; (case kqk1 => exact News.get (by k_asm) (by k_mem)); k_whole); intro tk)
  k_with "callWith" => (k_here; (with_reducible show wpAny _ _ (callWith _ (Value.builtin _) (_ :: _) _ _) _ _ _); refine callWith_method1 ?_)
  trivial
section
variable {w : World} {mean : ExcName → Option Value} {mg mb : Str → Option Value} {dp un : Nat} {gd : Option (List Code)} {cn : Str} {cs : Scope} {a : Addr} {ccd : Value} {cl : List (Str × Addr)} {outer : List Env} {A₀ : Around} {base h₀ : Heap} {L : Addr} {m : Str → Option Value} {news : List (Addr × Obj)} {s : Shared} {Q E : Value → Shared → Prop}
theorem lines_Tt_ok_2 : True := by
  k_with "call ref" => (k_here; k_dflt (refine' p229ok_as ?kqhi ?kqk1 ?kqk2 ?kqk3 ?kqk4 ?kqk5 ?kqkK ?kqkd ?kqku ?kqkm ?_; (case kqhi => assumption); (case kqk1 => k_asm); (case kqk2 => k_asm); (case kqk3 => k_asm); (case kqk4 => k_asm); (case kqk5 => k_asm); (case kqkK => first | exact rfl | assumption); (case kqkd => ktr_room); (case kqku => ktr_units); (case kqkm => k_mem); k_whole); intro r' t' h' tk' D' F' N'; (replace D' := allNe_of D'); (simp only [AllNe, and_true] at D'); (try k_sweep))
  k_with "call ref" => (k_here; k_dflt (refine' p229no_as ?kqhi ?kqk1 ?kqk2 ?kqk3 ?kqk4 ?kqk5 ?kqkK ?kqkd ?kqku ?_; (case kqhi => assumption); (case kqk1 => k_asm); (case kqk2 => k_asm); (case kqk3 => k_asm); (case kqk4 => k_asm); (case kqk5 => k_asm); (case kqkK => first | exact rfl | assumption); (case kqkd => ktr_room); (case kqku => ktr_units); k_whole); intro g' e' ta' h' tk' F' R' U')
  k_with "call ref" => (k_here; k_dflt (refine' p229bad_as ?kqhi ?kqk1 ?kqk2 ?kqk3 ?kqk4 ?kqk5 ?kqkK ?kqkd ?kqku ?_; (case kqhi => assumption); (case kqk1 => k_asm); (case kqk2 => k_asm); (case kqk3 => k_asm); (case kqk4 => k_asm); (case kqk5 => k_asm); (case kqkK => first | exact rfl | assumption); (case kqkd => ktr_room); (case kqku => ktr_units); k_whole); intro g' e' ta' h' tk' F' R' U')
  k_with "call ref" => (k_here; k_dflt (refine' push_K ?kqh1 ?kqh2 ?kqh3 ?kqk1 ?kqk2 ?kqk3 ?kqk4 ?kqkU ?kqk5 ?kqkK ?kqkd ?kqku ?_; (case kqk1 => k_asm); (case kqk2 => k_asm); (case kqk3 => k_asm); (case kqk4 => k_asm); (case kqkU => k_updF); (case kqh2 => assumption); (case kqh1 => omega); (case kqh3 => assumption); (case kqk5 => k_asm); (case kqkK => first | exact rfl | assumption); (case kqkd => ktr_room); (case kqku => ktr_units); k_whole); intro vs' n' ns' h' tk' I' P' H' F' N'; (try k_sweep))
  k_with "call builtin:list.append" => (k_here; k_dflt (refine' l_append ?kqk1 ?kqk2 ?kqk3 ?kqz ?_; (case kqk1 => k_asm); (case kqk2 => k_asm); (case kqk3 => k_upd); (case kqz => omega); k_whole); intro h' F' N'; (try k_sweep))
  trivial
theorem try_ok {g₀ g h : Heap} {L₂ lq lh ll : Addr} {x nm : Str} {tx tn tp : Tok} {p : Int} {mz : Str → Option Value} {qs : List Int} {vH vQ vL : List Value} {nH nQ nL tk : Nat} {rest : List (Addr × Obj)} {QF : Flow → Shared → Prop} {port : Int} (hb : P229Ok x port) (lLe : vL.length ≤ 1000) (lHe : vH.length ≤ 1000)
   (XB : (hd.heap_39 w.params).In base) (TB : Top hd.view_39 (looseW hd.view_39 []) mean mg mb base) (B : Below (ktrTop dp un gd cn cs L a ccd [] []) base [envOf cn cs L a ccd] g) (X : (hd.heap_39 w.params).In g) (T : Top hd.view_39 (looseW hd.view_39 []) mean mg mb g) (D : KtsDicts ([envOf cn cs L a ccd].filterMap (·.frame)) g) (K : KtsTurn ([envOf cn cs L a ccd].filterMap (·.frame)) g₀ g) (hk : cs.kind = .function) (hdp : dp + 6 < recursionLimit) (hun : un + 100 < cLine)
   (F : Fr g L₂ h (kstB mz (tryPs lq lh ll x nm tx tn p tp))) (N : News g L₂ h ((ll, listOf vL.toArray nL) :: (lh, listOf vH.toArray nH) :: (lq, listOf vQ.toArray nQ) :: rest))
   (no : @Ne Nat lh ll ∧ @Ne Nat lq ll ∧ @Ne Nat lq lh) (off : OwnOff rest [ll, lh, lq])
   (ret : ∀ h' tk' t' th T1 T2, (@LT.lt Nat _ ll T1 ∧ @LT.lt Nat _ lh T1 ∧ @LT.lt Nat _ lq T1 ∧ AllLt T1 rest) → (@LT.lt Nat _ ll T2 ∧ @LT.lt Nat _ lh T2 ∧ @LT.lt Nat _ lq T2 ∧ AllLt T2 rest) →
     Fr g L₂ h' (fun y => if y = Str.ofString "told" then some (.int port t') else if y = Str.ofString "host" then some (.str (Str.ofString "::1") th) else kstB mz (tryPs lq lh ll x nm tx tn p tp) y) →
     News g L₂ h' ((T2, ({ cls := .type "tuple", data := .seq #[.str (Str.ofString "::1") th, .int port t', .str nm tn] } : Obj)) :: (T1, ({ cls := .type "tuple", data := .seq #[.int port t', .str nm tn] } : Obj)) :: (ll, listOf (vL ++ [Value.ref T2]).toArray (nL + 1)) :: (lh, listOf (vH ++ [Value.ref T1]).toArray (nH + 1)) :: (lq, listOf vQ.toArray nQ) :: rest) → QF .next { s with heap := h', toks := tk' }) :
   wpAny (model Challenge.rw_pd0171_01.row.prog w) ((ktrTop dp un gd cn cs L a ccd [] []).deeper (envOf (Str.ofString "_law_talk") (fnScope w.params 236) L₂ 236 (.ref 235))) (exec (talkTry1 w.params) (envOf (Str.ofString "_law_talk") (fnScope w.params 236) L₂ 236 (.ref 235))) QF E { s with heap := h, toks := tk } := by
  revert X
  k_fill
  intro X
  refine noE ?_
  (with_unfolding_all conv in (talkTry1 _) => whnf)
  (with_unfolding_all conv in (occs := *) (fnScope _ _) => all_goals whnf)
  k_steps
  rename (_ < _ ∧ _ < _ ∧ _ < _ ∧ _ < _ ∧ _ < _ ∧ _ < _ ∧ AllLt _ rest) => q1
  rename (_ < _ ∧ _ < _ ∧ _ < _ ∧ _ < _ ∧ _ < _ ∧ AllLt _ rest) => q2
  exact ret _ _ _ _ _ _ q2.2.2 q1.2.2.2 (by k_asm) (news_skip2 (by assumption))
end
end
section
open PySem PySem.W PyProof.Rows PySem.Calls PySem.Spec
set_option maxRecDepth 100000
set_option maxHeartbeats 0
theorem lines_W5_1 : True := by
  k_with_none
  k_with "eval Constant int" => (refine flat_int ?_)
  k_with "eval Constant str" => (refine flat_str ?_)
  k_with "call builtin:issubclass" => (k_here; k_dflt (refine' issub_call ?kqk1 ?_; (case kqk1 => exact News.get (by k_asm) (by k_mem)); k_whole); intro tk)
  k_with "callWith" => (k_here; (with_reducible show wpAny _ _ (callWith _ (Value.builtin _) (_ :: _) _ _) _ _ _); refine callWith_method1 ?_)
  trivial
abbrev tailPs (lq lh ll : Addr) (c : Nat) (nm : Str) (v p : Int) (tk5 tv tm tn tp : Tok) : List (Str × Value) :=
  [(Str.ofString "kind", .int 5 tk5), (Str.ofString "value", .int v tv), (Str.ofString "mark", .str ⟨#[c]⟩ tm), (Str.ofString "name", .str nm tn), (Str.ofString "held", .ref lh), (Str.ofString "log", .ref ll), (Str.ofString "free", .ref lq), (Str.ofString "port", .int p tp)]
noncomputable def talkTail (P : Params) : List Stmt := (thenOf (elseOf (elseOf (elseOf (forBody (fnBody P 236)))))).drop 3
structure Wrongs (c : Nat) (nm : Str) : Prop where
  h0 : ∀ p, 1024 ≤ p → p < 1028 → ∃ r, WrongIs (pre229 c p ++ nm) (⟨#[c]⟩ ++ Str.ofString ")") (Str.ofString ")") r
  h1 : ∀ p, 1024 ≤ p → p < 1028 → ∃ r, WrongIs (pre229 c p ++ nm) ⟨#[c, c, c]⟩ ⟨#[c, c, c, c]⟩ r
  h2 : ∀ p, 1024 ≤ p → p < 1028 → ∃ r, WrongIs (pre229 c p ++ nm) (⟨#[c]⟩ ++ Str.ofString ")") (⟨#[c]⟩ ++ Str.ofString "x)") r
theorem talkPs_off {lq lh ll lw lf : Addr} {fr : Int} {tfr tpl : Tok} {pl : Str} : ∀ p ∈ talkPs lq lh ll lw lf fr tfr pl tpl, talkStored.contains p.1 = false :=
  List.forall_mem_cons.mpr ⟨(by decide +kernel : talkStored.contains (Str.ofString "free") = false), List.forall_mem_cons.mpr ⟨(by decide +kernel : talkStored.contains (Str.ofString "fresh") = false), List.forall_mem_cons.mpr ⟨(by decide +kernel : talkStored.contains (Str.ofString "held") = false), List.forall_mem_cons.mpr ⟨(by decide +kernel : talkStored.contains (Str.ofString "log") = false), List.forall_mem_cons.mpr ⟨(by decide +kernel : talkStored.contains (Str.ofString "place") = false), List.forall_mem_cons.mpr ⟨(by decide +kernel : talkStored.contains (Str.ofString "files") = false), List.forall_mem_cons.mpr ⟨(by decide +kernel : talkStored.contains (Str.ofString "ways") = false), List.forall_mem_nil _⟩⟩⟩⟩⟩⟩⟩
end
section
open PySem PySem.W PyProof.Rows PySem.Calls PySem.Spec PyProof.V
open Builtin Builtin.Str
set_option maxRecDepth 100000
set_option maxHeartbeats 400000
/-! texts that begin with a known part -/
theorem cps_app (a b : Str) : (a ++ b).cps.toList = a.cps.toList ++ b.cps.toList := by rw [Str.cps_append]; simp
theorem cps_len (a : Str) : a.cps.toList.length = a.length := by simp [Str.length]
theorem at_app {p t y : Str} {k : Nat} (h : k + y.length ≤ p.length) : StrLaws.At (p ++ t) y (p ++ t).length k ↔ StrLaws.At p y p.length k := by
  unfold StrLaws.At
  have h1 := cps_len p
  have h2 : k + y.length ≤ (p ++ t).length := by rw [Str.length_append]; omega
  rw [StrLaws.subAt_eq, StrLaws.subAt_eq, cps_app, List.drop_append_of_le_length (by omega), List.take_append_of_le_length (by rw [List.length_drop]; omega)]
  exact ⟨fun x => ⟨h, x.2⟩, fun x => ⟨h2, x.2⟩⟩
theorem occ_app {p y : Str} {lo i : Nat} (h : occurrences p y lo p.length 1 = [i]) (t : Str) : occurrences (p ++ t) y lo (p ++ t).length 1 = [i] := by
  rcases StrLaws.occ_head_from p y lo 1 (Nat.le_refl _) with ⟨e, _⟩ | ⟨i', r, e, hlo, hA, hn⟩
  · rw [h] at e; cases e
  · rw [h] at e
    cases e
    have hA2 := (at_app (t := t) hA.1).mpr hA
    rcases StrLaws.occ_head_from (p ++ t) y lo 1 (Nat.le_refl _) with ⟨e2, hn2⟩ | ⟨j, r, e2, hlo2, hB, hn2⟩
    · exact absurd hA2 (hn2 i hlo)
    · have hl := StrLaws.occ_length_le (p ++ t) y lo (p ++ t).length 1
      rw [e2] at hl ⊢
      have hr : r = [] := by
        cases r with
        | nil => rfl
        | cons a b => simp at hl
      subst hr
      have hA1 := hA.1
      have hij : j = i := by
        by_cases h1 : j < i
        · exact absurd ((at_app (t := t) (by omega)).mp hB) (hn j hlo2 h1)
        · by_cases h2 : i < j
          · exact absurd hA2 (hn2 i hlo h2)
          · omega
      rw [hij]
theorem find_app {p y : Str} {i : Nat} (h : occurrences p y 0 p.length 1 = [i]) (t : Str) : Txt.find (p ++ t) y = (i : Int) := by
  unfold Txt.find
  rw [occ_app h t]
theorem from_nat {n k : Nat} (h : k ≤ n) : fromIndex n (k : Int) = k := by
  simp only [fromIndex]
  try (split <;> omega)
theorem find3_app {p y : Str} {lo i : Nat} (h : occurrences p y lo p.length 1 = [i]) (hl : lo ≤ p.length) (t : Str) : Txt.find3 (p ++ t) y (lo : Int) = (i : Int) := by
  unfold Txt.find3
  rw [from_nat (by rw [Str.length_append]; omega), occ_app h t]
theorem slice_is {x : Str} {i j : Nat} (h : i ≤ j) (h2 : j ≤ x.length) : Txt.slice x (some (i : Int)) (some (j : Int)) = ⟨((x.cps.toList.drop i).take (j - i)).toArray⟩ := by
  have h3 := slice_closes (x := x) (i := (i : Int)) (j := (j : Int)) ⟨by omega, by omega, by rw [cps_len]; omega⟩
  rw [beq_iff_eq] at h3
  have e : ((j : Int) - (i : Int)).toNat = j - i := by omega
  rwa [e] at h3
theorem slice_none {x : Str} {j : Nat} (h2 : j ≤ x.length) : Txt.slice x none (some (j : Int)) = ⟨(x.cps.toList.take j).toArray⟩ := by
  have h3 := slice_closes_to (x := x) (j := (j : Int)) ⟨by omega, by rw [cps_len]; omega⟩
  rw [beq_iff_eq] at h3
  simpa using h3
theorem slice_app {p : Str} {i j : Nat} (h : i ≤ j) (h2 : j ≤ p.length) (t : Str) : Txt.slice (p ++ t) (some (i : Int)) (some (j : Int)) = ⟨((p.cps.toList.drop i).take (j - i)).toArray⟩ := by
  have h3 := cps_len p
  rw [slice_is h (by rw [Str.length_append]; omega), cps_app, List.drop_append_of_le_length (by omega), List.take_append_of_le_length (by rw [List.length_drop]; omega)]
theorem slice_none_app {p : Str} {j : Nat} (h2 : j ≤ p.length) (t : Str) : Txt.slice (p ++ t) none (some (j : Int)) = ⟨(p.cps.toList.take j).toArray⟩ := by
  have h3 := cps_len p
  rw [slice_none (by rw [Str.length_append]; omega), cps_app, List.take_append_of_le_length (by omega)]
theorem item_app {p : Str} {i c : Nat} (h : p.cps.toList[i]? = some c) (t : Str) : Txt.item (p ++ t) (i : Int) = ⟨#[c]⟩ := by
  refine item_at (by omega) ?_
  rw [cps_app]
  have h2 := (List.getElem?_eq_some_iff.mp h).1
  rw [Int.toNat_natCast, List.getElem?_append_left h2, h]
/-- what is asked of an answer's first part: the mark c opens, the sign e closes at place r - 1 -/
def preOk (p : Str) (c e r : Nat) : Bool :=
  (⟨(p.cps.toList.take 3).toArray⟩ : Str) == Str.ofString "229" && decide (occurrences p (Str.ofString "(") 0 p.length 1 = [7]) && decide (occurrences p (Str.ofString ")") 8 p.length 1 = [r]) && decide (9 ≤ r) && decide (r ≤ p.length) && decide (p.length ≤ 100) && decide (p.cps.toList[8]? = some c) && decide (p.cps.toList[r - 1]? = some e)
theorem pre_at {p nm : Str} {c e r : Nat} (h : preOk p c e r = true) (hn : nm.length ≤ 1000) : P229At (p ++ nm) ⟨#[c]⟩ (r : Int) ∧ Txt.item (p ++ nm) ((r : Int) - 1) = ⟨#[e]⟩ ∧ 9 ≤ r ∧ r ≤ p.length ∧ p.length ≤ 100 := by
  simp only [preOk, Bool.and_eq_true, decide_eq_true_eq, beq_iff_eq] at h
  obtain ⟨⟨⟨⟨⟨⟨⟨h1, h2⟩, h3⟩, h4⟩, h5⟩, h6⟩, h7⟩, h8⟩ := h
  have e1 : ((r : Int) - 1) = ((r - 1 : Nat) : Int) := by omega
  refine ⟨⟨by rw [Str.length_append]; omega, ?_, find_app h2 nm, find3_app (lo := 8) h3 (by omega) nm, by omega, by rw [Str.length_append]; omega, item_app (i := 8) h7 nm⟩, ?_, h4, h5, h6⟩
  · exact (slice_none_app (j := 3) (by omega) nm).trans h1
  · rw [e1]; exact item_app h8 nm
def mid (p : Str) (r : Nat) : Str := ⟨((p.cps.toList.drop 8).take (r - 8)).toArray⟩
theorem mid_is {p : Str} {r : Nat} (h1 : 9 ≤ r) (h2 : r ≤ p.length) (nm : Str) : Txt.slice (p ++ nm) (some (7 + 1)) (some (r : Int)) = mid p r := slice_app (i := 8) (by omega) h2 nm
theorem mid_len {p : Str} {r : Nat} (h : p.length ≤ 100) : (mid p r).length ≤ 2000 := by
  show ((((p.cps.toList.drop 8).take (r - 8)).toArray)).size ≤ 2000
  have := cps_len p
  simp only [List.size_toArray, List.length_take, List.length_drop]
  omega
theorem list5 {α : Type} {l : List α} {x : α} (h : l.length = 5) (h3 : l[3]? = some x) : ∃ a b c e, l = [a, b, c, x, e] := by
  match l, h, h3 with
  | [a, b, c, d, e], _, h3 => exact ⟨a, b, c, e, by simpa using h3⟩
theorem ok_of {p nm : Str} {c : Nat} {port : Int} (h : preOk p c c 16 = true) (hs : (decide ((Txt.split (mid p 16) ⟨#[c]⟩).length = 5) && decide ((Txt.split (mid p 16) ⟨#[c]⟩)[3]? = some (Str.ofString (toString port)))) = true) (hp : 0 ≤ port) (hp2 : port < 10 ^ 10) (hn : nm.length ≤ 1000) : P229Ok (p ++ nm) port := by
  obtain ⟨ha, hi, h1, h2, h3⟩ := pre_at h hn
  simp only [Bool.and_eq_true, decide_eq_true_eq] at hs
  obtain ⟨p0, p1, p2, p4, e⟩ := list5 hs.1 hs.2
  exact ⟨⟨mid p 16, p0, p1, p2, p4, _, _, ha, hi, rfl, mid_is h1 h2 nm, mid_len h3, e⟩, hp, hp2⟩
theorem bad_of1 {p nm : Str} {c e r : Nat} (h : preOk p c e r = true) (hne : decide (c ≠ e) = true) (hn : nm.length ≤ 1000) : P229Bad (p ++ nm) := by
  obtain ⟨ha, hi, _⟩ := pre_at h hn
  refine ⟨_, _, ha, .inl ⟨_, hi, ?_⟩⟩
  have h1 : c ≠ e := of_decide_eq_true hne
  show (!(_ == _)) = true
  rw [Bool.not_eq_true', beq_eq_false_iff_ne]
  intro q
  exact h1 (by simpa using congrArg Str.cps q)
theorem bad_of2 {p nm : Str} {c r : Nat} (h : preOk p c c r = true) (hs : decide ((Txt.split (mid p r) ⟨#[c]⟩).length = 6) = true) (hn : nm.length ≤ 1000) : P229Bad (p ++ nm) := by
  obtain ⟨ha, hi, h1, h2, h3⟩ := pre_at h hn
  exact ⟨_, _, ha, .inr ⟨hi, rfl, _, _, mid_is h1 h2 nm, mid_len h3, rfl, of_decide_eq_true hs⟩⟩
/-- an answer spoiled in its first part -/
theorem wrong_of {p y z q : Str} {i : Nat} {nm : Str} (ho : occurrences p y 0 p.length 1 = [i]) (hi : i + y.length ≤ p.length) (hq : strSub p 0 i ++ z ++ strSub p (i + y.length) p.length = q) (hy : (y.length == 0) = false) (hyz : (y == z) = false) (hz : z.length ≤ 10) (hp : p.length ≤ 100) (hql : q.length ≤ 200) (hn : nm.length ≤ 1000) (hb : P229Bad (q ++ nm)) : WrongIs (p ++ nm) y z (q ++ nm) := by
  have h1 := occ_app ho nm
  refine ⟨?_, by rw [Str.length_append]; omega, by rw [h1]; rfl, hy, hyz, by rw [Str.length_append]; omega, hz, hb⟩
  unfold replace1
  rw [h1, StrLaws.partsBetween_eq, StrLaws.glued_eq_join]
  show strSub (p ++ nm) 0 i ++ z ++ strSub (p ++ nm) (i + y.length) (p ++ nm).length = q ++ nm
  rw [← hq]
  have hc := cps_len p
  have e1 : strSub (p ++ nm) 0 i = strSub p 0 i := by
    apply Str.ext'; apply Array.toList_inj.mp
    rw [StrLaws.strSub_toList, StrLaws.strSub_toList, cps_app, List.drop_zero, List.drop_zero, List.take_append_of_le_length (by omega)]
  have e2 : strSub (p ++ nm) (i + y.length) (p ++ nm).length = strSub p (i + y.length) p.length ++ nm := by
    apply Str.ext'; apply Array.toList_inj.mp
    have hc2 := cps_len (p ++ nm)
    have hc3 := cps_len nm
    rw [cps_app, StrLaws.strSub_toList, StrLaws.strSub_toList, List.take_of_length_le (by rw [List.length_drop]; omega), cps_app, List.drop_append_of_le_length (by omega), List.take_of_length_le (by rw [List.length_drop]; omega)]
  rw [e1, e2]
  simp only [Str.append_assoc]
/-- the twelve first parts -/
def marks : List Nat := [124, 33, 126]
def checkOk (c : Nat) (port : Int) : Bool := preOk (pre229 c port) c c 16 && (decide ((Txt.split (mid (pre229 c port) 16) ⟨#[c]⟩).length = 5) && decide ((Txt.split (mid (pre229 c port) 16) ⟨#[c]⟩)[3]? = some (Str.ofString (toString port))))
def spoil (p y z : Str) (i : Nat) : Str := strSub p 0 i ++ z ++ strSub p (i + y.length) p.length
def checkCut (p y z : Str) (i : Nat) : Bool := decide (occurrences p y 0 p.length 1 = [i]) && decide (i + y.length ≤ p.length) && (!(y.length == 0)) && (!(y == z)) && decide (z.length ≤ 10) && decide (p.length ≤ 100) && decide ((spoil p y z i).length ≤ 200)
def y0 (c : Nat) : Str := ⟨#[c]⟩ ++ Str.ofString ")"
def z2 (c : Nat) : Str := ⟨#[c]⟩ ++ Str.ofString "x)"
def check0 (c : Nat) (port : Int) : Bool := checkCut (pre229 c port) (y0 c) (Str.ofString ")") 15 && preOk (spoil (pre229 c port) (y0 c) (Str.ofString ")") 15) c (48 + (port % 10).toNat) 15 && decide (c ≠ 48 + (port % 10).toNat)
def check1 (c : Nat) (port : Int) : Bool := checkCut (pre229 c port) ⟨#[c, c, c]⟩ ⟨#[c, c, c, c]⟩ 8 && preOk (spoil (pre229 c port) ⟨#[c, c, c]⟩ ⟨#[c, c, c, c]⟩ 8) c c 17 && decide ((Txt.split (mid (spoil (pre229 c port) ⟨#[c, c, c]⟩ ⟨#[c, c, c, c]⟩ 8) 17) ⟨#[c]⟩).length = 6)
def check2 (c : Nat) (port : Int) : Bool := checkCut (pre229 c port) (y0 c) (z2 c) 15 && preOk (spoil (pre229 c port) (y0 c) (z2 c) 15) c 120 17 && decide (c ≠ 120)
def portsT : List Int := [1024, 1025, 1026, 1027]
theorem checks : ∀ c ∈ marks, ∀ p ∈ portsT, (checkOk c p && check0 c p && check1 c p && check2 c p) = true := by decide +kernel
theorem portsT_mem {p : Int} (h1 : 1024 ≤ p) (h2 : p < 1028) : p ∈ portsT := by
  have : p = 1024 ∨ p = 1025 ∨ p = 1026 ∨ p = 1027 := by omega
  simp [portsT, this]
theorem checks_at {c : Nat} {p : Int} (hc : c ∈ marks) (h1 : 1024 ≤ p) (h2 : p < 1028) : checkOk c p = true ∧ check0 c p = true ∧ check1 c p = true ∧ check2 c p = true := by
  have h := checks c hc p (portsT_mem h1 h2)
  simp only [Bool.and_eq_true] at h
  exact ⟨h.1.1.1, h.1.1.2, h.1.2, h.2⟩
theorem ok_at {c : Nat} {p : Int} {nm : Str} (hc : c ∈ marks) (hn : nm.length ≤ 1000) (h1 : 1024 ≤ p) (h2 : p < 1028) : P229Ok (pre229 c p ++ nm) p := by
  have h := (checks_at hc h1 h2).1
  rw [checkOk, Bool.and_eq_true] at h
  exact ok_of h.1 h.2 (by omega) (by omega) hn
theorem cut_wrong {p y z nm : Str} {i : Nat} (h : checkCut p y z i = true) (hn : nm.length ≤ 1000) (hb : P229Bad (spoil p y z i ++ nm)) : ∃ r, WrongIs (p ++ nm) y z r := by
  simp only [checkCut, Bool.and_eq_true, decide_eq_true_eq, Bool.not_eq_true'] at h
  obtain ⟨⟨⟨⟨⟨⟨h1, h2⟩, h3⟩, h4⟩, h5⟩, h6⟩, h7⟩ := h
  exact ⟨_, wrong_of h1 h2 rfl h3 h4 h5 h6 h7 hn hb⟩
theorem wrongs_at {c : Nat} {nm : Str} (hc : c ∈ marks) (hn : nm.length ≤ 1000) : Wrongs c nm := by
  refine ⟨fun p h1 h2 => ?_, fun p h1 h2 => ?_, fun p h1 h2 => ?_⟩
  · have h := (checks_at hc h1 h2).2.1
    rw [check0, Bool.and_eq_true, Bool.and_eq_true] at h
    exact cut_wrong h.1.1 hn (bad_of1 h.1.2 h.2 hn)
  · have h := (checks_at hc h1 h2).2.2.1
    rw [check1, Bool.and_eq_true, Bool.and_eq_true] at h
    exact cut_wrong h.1.1 hn (bad_of2 h.1.2 h.2 hn)
  · have h := (checks_at hc h1 h2).2.2.2
    rw [check2, Bool.and_eq_true, Bool.and_eq_true] at h
    exact cut_wrong h.1.1 hn (bad_of1 h.1.2 h.2 hn)
end
section
open PySem PySem.W PyProof.Rows PySem.Calls PySem.Spec PyProof.V
open Builtin Builtin.Str
set_option maxRecDepth 100000
set_option maxHeartbeats 400000
/-! what normpath and parse257 make of the machine's folders -/
theorem slash_eq : Str.ofString "/" = ⟨#[47]⟩ := by decide +kernel
theorem cut_free {c : Nat} : ∀ {a b x y : List Nat}, c ∉ a → c ∉ b → a ++ c :: x = b ++ c :: y → a = b ∧ x = y
  | [], [], _, _, _, _, h => ⟨rfl, (List.cons.inj h).2⟩
  | [], d :: b, _, _, _, hb, h => absurd ((List.cons.inj h).1 ▸ List.mem_cons_self .. : c ∈ d :: b) hb
  | d :: a, [], _, _, ha, _, h => absurd ((List.cons.inj h).1.symm ▸ List.mem_cons_self .. : c ∈ d :: a) ha
  | d :: a, e :: b, x, y, ha, hb, h => by
    have h1 := List.cons.inj h
    obtain ⟨e1, e2⟩ := cut_free (fun m => ha (List.mem_cons_of_mem _ m)) (fun m => hb (List.mem_cons_of_mem _ m)) h1.2
    exact ⟨by rw [h1.1, e1], e2⟩
theorem join_two (c : Nat) (a b : Str) (r : List Str) : (Str.join ⟨#[c]⟩ (a :: b :: r)).cps.toList = a.cps.toList ++ c :: (Str.join ⟨#[c]⟩ (b :: r)).cps.toList := by
  show ((a ++ ⟨#[c]⟩) ++ Str.join ⟨#[c]⟩ (b :: r)).cps.toList = _
  rw [cps_app, cps_app]
  simp
theorem join_uniq (c : Nat) : ∀ (l l' : List Str), l ≠ [] → l' ≠ [] → (∀ p ∈ l, c ∉ p.cps.toList) → (∀ p ∈ l', c ∉ p.cps.toList) → Str.join ⟨#[c]⟩ l = Str.join ⟨#[c]⟩ l' → l = l'
  | [], _, h, _, _, _, _ => absurd rfl h
  | _, [], _, h, _, _, _ => absurd rfl h
  | [a], [b], _, _, _, _, h => by have e : a = b := h; rw [e]
  | [a], b :: b2 :: r, _, _, h1, _, h => by
    have e := congrArg (fun x : Str => x.cps.toList) h
    rw [join_two c b b2 r] at e
    exact absurd (show c ∈ a.cps.toList from (e : a.cps.toList = _) ▸ List.mem_append.mpr (.inr (List.mem_cons_self ..))) (h1 a (.head _))
  | a :: a2 :: r, [b], _, _, _, h2, h => by
    have e := congrArg (fun x : Str => x.cps.toList) h
    rw [join_two c a a2 r] at e
    exact absurd (show c ∈ b.cps.toList from (e.symm : b.cps.toList = _) ▸ List.mem_append.mpr (.inr (List.mem_cons_self ..))) (h2 b (.head _))
  | a :: a2 :: r, b :: b2 :: r', _, _, h1, h2, h => by
    have e := congrArg (fun x : Str => x.cps.toList) h
    rw [join_two c a a2 r, join_two c b b2 r'] at e
    obtain ⟨e1, e2⟩ := cut_free (h1 a (.head _)) (h2 b (.head _)) e
    have ih := join_uniq c (a2 :: r) (b2 :: r') (by simp) (by simp) (fun p hp => h1 p (.tail _ hp)) (fun p hp => h2 p (.tail _ hp)) (Str.ext' (Array.toList_inj.mp e2))
    rw [Str.ext' (Array.toList_inj.mp e1), ih]
theorem split_join {l : List Str} (h0 : l ≠ []) (h : ∀ p ∈ l, 47 ∉ p.cps.toList) : Txt.split (Str.join (Str.ofString "/") l) (Str.ofString "/") = l := by
  rw [slash_eq]
  refine join_uniq 47 _ _ ?_ h0 (StrLaws.split_free _ _) h (StrLaws.join_split _ _)
  have := split_pos (Str.join ⟨#[47]⟩ l) ⟨#[47]⟩
  intro e
  rw [e] at this
  simp at this
theorem join_snoc (sep w : Str) : ∀ l : List Str, l ≠ [] → Str.join sep (l ++ [w]) = Str.join sep l ++ (sep ++ w)
  | [], h => absurd rfl h
  | [a], _ => by show (a ++ sep) ++ w = a ++ (sep ++ w); rw [Str.append_assoc]
  | a :: b :: r, _ => by
    have ih := join_snoc sep w (b :: r) (by simp)
    show (a ++ sep) ++ Str.join sep (b :: r ++ [w]) = ((a ++ sep) ++ Str.join sep (b :: r)) ++ (sep ++ w)
    simp only [ih, Str.append_assoc]
theorem join_cat (sep : Str) (m : List Str) (hm : m ≠ []) : ∀ l : List Str, l ≠ [] → Str.join sep (l ++ m) = Str.join sep l ++ (sep ++ Str.join sep m)
  | [], h => absurd rfl h
  | [a], _ => by
    cases m with
    | nil => exact absurd rfl hm
    | cons b r => show (a ++ sep) ++ Str.join sep (b :: r) = a ++ (sep ++ Str.join sep (b :: r)); rw [Str.append_assoc]
  | a :: b :: r, _ => by
    have ih := join_cat sep m hm (b :: r) (by simp)
    show (a ++ sep) ++ Str.join sep (b :: r ++ m) = ((a ++ sep) ++ Str.join sep (b :: r)) ++ (sep ++ Str.join sep m)
    simp only [ih, Str.append_assoc]
theorem word_free {y : Str} (h : y ∈ wordsL) : 47 ∉ y.cps.toList ∧ 0 < y.length ∧ y.length ≤ 12 := by
  have h1 := words_ok y h
  simp only [okW, Bool.and_eq_true, decide_eq_true_eq] at h1
  refine ⟨fun m => ?_, h1.1.2, h1.1.1.2⟩
  have := List.all_eq_true.mp h1.2 47 m
  simp at this
theorem ends_free {Y w : Str} (hw : 47 ∉ w.cps.toList) (h0 : 0 < w.length) : Txt.endswith (Y ++ w) (Str.ofString "/") = false := by
  rw [slash_eq]
  unfold Txt.endswith
  rw [Bool.and_eq_false_iff]
  refine .inr ?_
  rw [Bool.eq_false_iff]
  intro h
  have h1 := (StrLaws.subAt_one _ _ _).mp ⟨by rw [Str.length_append] at *; show _ - 1 + 1 ≤ _; omega, h⟩
  have h2 := cps_len Y
  have h3 := cps_len w
  have e : (⟨#[47]⟩ : Str).length = 1 := rfl
  rw [cps_app, Str.length_append, e, List.getElem?_append_right (by omega)] at h1
  exact hw (List.mem_of_getElem? h1)
theorem join_first {sep a : Str} {d : Nat} {t : List Nat} (h : a.cps.toList = d :: t) : ∀ r, ∃ t', (Str.join sep (a :: r)).cps.toList = d :: t'
  | [] => ⟨t, h⟩
  | b :: r => ⟨t ++ (sep ++ Str.join sep (b :: r)).cps.toList, by
    show ((a ++ sep) ++ Str.join sep (b :: r)).cps.toList = _
    rw [Str.append_assoc, cps_app, h]; rfl⟩
theorem rootP_slash {z : Str} {d : Nat} {t : List Nat} (hz : z.cps.toList = d :: t) (hd : d ≠ 47) : rootP (Str.ofString "/" ++ z) = (Str.ofString "/", z) := by
  have hl := cps_len z
  have h1 : (Str.ofString "/").length = 1 := by decide +kernel
  have hx : (Str.ofString "/" ++ z).cps.toList = 47 :: z.cps.toList := by rw [cps_app, slash_eq]; rfl
  have hxl : (Str.ofString "/" ++ z).length = 1 + z.length := by rw [Str.length_append, h1]
  have hzl : 1 ≤ z.length := by rw [← hl, hz]; simp
  have s1 : Txt.slice (Str.ofString "/" ++ z) none (some 1) = Str.ofString "/" := (slice_none (j := 1) (by omega)).trans (by rw [hx, slash_eq]; rfl)
  have s2 : Txt.slice (Str.ofString "/" ++ z) (some 1) (some 2) = ⟨#[d]⟩ := (slice_is (i := 1) (j := 2) (by omega) (by omega)).trans (by rw [hx, hz]; rfl)
  have s3 : Txt.slice (Str.ofString "/" ++ z) (some 1) none = z := by
    have h3 := slice_closes_from (x := Str.ofString "/" ++ z) (i := 1) ⟨by omega, by rw [cps_len]; omega⟩
    rw [beq_iff_eq] at h3
    rw [h3]
    apply Str.ext'
    apply Array.toList_inj.mp
    show (((Str.ofString "/" ++ z).cps.toList.drop 1).take _) = _
    rw [hx]
    exact List.take_of_length_le (by rw [List.length_cons]; show z.cps.toList.length ≤ _; omega)
  have b1 : (Txt.slice (Str.ofString "/" ++ z) none (some 1) != Str.ofString "/") = false := by rw [s1]; simp
  have b2 : (Txt.slice (Str.ofString "/" ++ z) (some 1) (some 2) != Str.ofString "/") = true := by
    rw [s2, slash_eq]
    show (!(_ == _)) = true
    rw [Bool.not_eq_true', beq_eq_false_iff_ne]
    intro q
    exact hd (by simpa using congrArg Str.cps q)
  rw [rootP2 b1 b2, s3]
theorem normStep_word : ∀ y ∈ wordsL, (decide (((y.length : Nat) : Int) ≠ 0) && (!(y == Str.ofString ".")) && (y != Str.ofString "..")) = true := by decide +kernel
theorem norm_names : ∀ (names acc : List Str), (∀ y ∈ names, y ∈ wordsL) → names.foldl normStep acc = acc ++ names
  | [], acc, _ => (List.append_nil acc).symm
  | y :: r, acc, h => by
    have h1 := normStep_word y (h y (.head _))
    simp only [Bool.and_eq_true, decide_eq_true_eq, Bool.not_eq_true'] at h1
    rw [List.foldl_cons, normStep_on h1.1.1 h1.1.2 h1.2, norm_names r _ fun q hq => h q (.tail _ hq), List.append_assoc]
    rfl
theorem sum_words {names : List Str} (h : ∀ y ∈ names, y ∈ wordsL) : (names.map (·.length)).sum ≤ 12 * names.length := words_w h
theorem PP_norm {names parts res : List Str} {word : Str} {d : Nat} {t : List Nat} (hn : ∀ y ∈ names, y ∈ wordsL) (hl : names.length ≤ 20) (hs : Txt.startswith word (Str.ofString "/") = false) (hp : ∀ p ∈ parts, 47 ∉ p.cps.toList) (hj : Str.join (Str.ofString "/") parts = word) (h0 : parts ≠ [])
    (hw : word.cps.toList = d :: t) (hd : d ≠ 47) (hwl : word.length ≤ 20) (hr : parts.foldl normStep names = res) (hres : ∀ y ∈ res, y ∈ wordsL) (hrl : res.length ≤ 21) : NormIs (joinP (PP names) word) (PP res) := by
  have hx : joinP (PP names) word = Str.ofString "/" ++ Str.join (Str.ofString "/") (names ++ [word]) := by
    cases names with
    | nil =>
      have e0 : PP [] = Str.ofString "/" := by decide +kernel
      rw [e0, joinP2 hs (by decide +kernel)]
      rfl
    | cons a r =>
      have hne : a :: r ≠ [] := by simp
      have hL := word_free (hn _ (List.getLast_mem hne))
      have hsp : ∃ Y, PP (a :: r) = Y ++ (a :: r).getLast hne := by
        have e := (List.dropLast_concat_getLast hne).symm
        by_cases hd0 : (a :: r).dropLast = []
        · refine ⟨Str.ofString "/", ?_⟩
          unfold PP
          conv => lhs; rw [e, hd0]
          rfl
        · refine ⟨Str.ofString "/" ++ (Str.join (Str.ofString "/") (a :: r).dropLast ++ Str.ofString "/"), ?_⟩
          unfold PP
          conv => lhs; rw [e]
          rw [join_snoc _ _ _ hd0, Str.append_assoc, Str.append_assoc]
      obtain ⟨Y, hY⟩ := hsp
      have he : Txt.endswith (PP (a :: r)) (Str.ofString "/") = false := by rw [hY]; exact ends_free hL.1 hL.2.1
      rw [joinP3 hs he, join_snoc _ _ _ hne]
      unfold PP
      rw [Str.append_assoc]
  have hz : ∃ d' t', (Str.join (Str.ofString "/") (names ++ [word])).cps.toList = d' :: t' ∧ d' ≠ 47 := by
    cases names with
    | nil => exact ⟨d, t, hw, hd⟩
    | cons a r =>
      have ha := word_free (hn a (.head _))
      have hal := cps_len a
      cases hc : a.cps.toList with
      | nil => rw [hc] at hal; simp at hal; omega
      | cons e u =>
        obtain ⟨t', ht'⟩ := join_first (sep := Str.ofString "/") hc (r ++ [word])
        exact ⟨e, t', ht', fun q => ha.1 (by rw [hc, q]; exact List.mem_cons_self ..)⟩
  obtain ⟨d', t', hz1, hz2⟩ := hz
  have hjn := StrLaws.join_length_le (Str.ofString "/") (names ++ [word])
  have hsw := sum_words hn
  have hres2 := PP_len hres
  have h1 : (Str.ofString "/").length = 1 := by decide +kernel
  simp only [List.map_append, List.map_cons, List.map_nil, List.sum_append, List.sum_cons, List.sum_nil, List.length_append, List.length_cons, List.length_nil, h1] at hjn
  have hzl : (Str.join (Str.ofString "/") (names ++ [word])).length ≤ 400 := by omega
  refine ⟨by rw [hx, Str.length_append]; omega, by rw [hx, Str.length_append]; omega, by omega, Str.join (Str.ofString "/") (names ++ [word]), by rw [hx]; exact rootP_slash hz1 hz2, by omega, ?_⟩
  have hcat : Str.join (Str.ofString "/") (names ++ [word]) = Str.join (Str.ofString "/") (names ++ parts) := by
    cases names with
    | nil => exact hj.symm
    | cons a r => rw [join_snoc _ _ _ (by simp), join_cat _ _ h0 _ (by simp), hj]
  rw [hcat, split_join (by simp [h0]) fun p hp' => (List.mem_append.mp hp').elim (fun m => (word_free (hn p m)).1) (hp p)]
  unfold normC
  rw [List.foldl_append, norm_names names [] hn, List.nil_append, hr]
  rfl
end
section
open PySem PySem.W PyProof.Rows PySem.Calls PySem.Spec PyProof.V
open Builtin Builtin.Str
set_option maxRecDepth 100000
set_option maxHeartbeats 400000
theorem step_on {names : List Str} {y : Str} (h : (decide (((y.length : Nat) : Int) ≠ 0) && (!(y == Str.ofString ".")) && (y != Str.ofString "..")) = true) : normStep names y = names ++ [y] := by
  simp only [Bool.and_eq_true, decide_eq_true_eq, Bool.not_eq_true'] at h
  exact normStep_on h.1.1 h.1.2 h.2
theorem step_up {names : List Str} : normStep names (Str.ofString "..") = names.dropLast := normStep_up (by decide +kernel) (by decide +kernel) (by decide +kernel)
theorem norm_one {names : List Str} {word : Str} {d : Nat} (hn : ∀ y ∈ names, y ∈ wordsL) (hl : names.length ≤ 20) (hw : word ∈ wordsL) (h0 : word.cps.toList = d :: word.cps.toList.tail) (hs : Txt.startswith word (Str.ofString "/") = false) : NormIs (joinP (PP names) word) (PP (names ++ [word])) := by
  have hf := word_free hw
  refine PP_norm (parts := [word]) hn hl hs (fun p hp => by rw [List.mem_singleton.mp hp]; exact hf.1) rfl (by simp) h0 (fun e => hf.1 (by rw [h0, e]; exact List.mem_cons_self ..)) (by omega) (step_on (normStep_word word hw)) (fun y hy => ?_) (by rw [List.length_append]; simp; omega)
  rcases List.mem_append.mp hy with hy | hy
  · exact hn y hy
  · rw [List.mem_singleton.mp hy]; exact hw
theorem norm_b {names : List Str} (hn : ∀ y ∈ names, y ∈ wordsL) (hl : names.length ≤ 20) : NormIs (joinP (PP names) (Str.ofString ".//b")) (PP (names ++ [Str.ofString "b"])) := by
  have hw : Str.ofString "b" ∈ wordsL := by decide +kernel
  refine PP_norm (parts := [Str.ofString ".", Str.ofString "", Str.ofString "b"]) hn hl (by decide +kernel) (by decide +kernel) (by decide +kernel) (by simp) (d := 46) (t := (Str.ofString ".//b").cps.toList.tail) (by decide +kernel) (by decide) (by decide +kernel) ?_ (fun y hy => ?_) (by rw [List.length_append]; simp; omega)
  · rw [List.foldl_cons, List.foldl_cons, List.foldl_cons, List.foldl_nil, normStep_dot (c := Str.ofString ".") (by decide +kernel) (by decide +kernel), normStep_empty (c := Str.ofString "") (by decide +kernel), step_on (normStep_word _ hw)]
  rcases List.mem_append.mp hy with hy | hy
  · exact hn y hy
  · rw [List.mem_singleton.mp hy]; exact hw
theorem norm_n {names : List Str} (hn : ∀ y ∈ names, y ∈ wordsL) (hl : names.length ≤ 20) : NormIs (joinP (PP names) (Str.ofString "../n (|||7|)")) (PP (names.dropLast ++ [Str.ofString "n (|||7|)"])) := by
  have hw : Str.ofString "n (|||7|)" ∈ wordsL := by decide +kernel
  refine PP_norm (parts := [Str.ofString "..", Str.ofString "n (|||7|)"]) hn hl (by decide +kernel) (by decide +kernel) (by decide +kernel) (by simp) (d := 46) (t := (Str.ofString "../n (|||7|)").cps.toList.tail) (by decide +kernel) (by decide) (by decide +kernel) ?_ (fun y hy => ?_) (by rw [List.length_append, List.length_dropLast]; simp; omega)
  · rw [List.foldl_cons, List.foldl_cons, List.foldl_nil, step_up, step_on (normStep_word _ hw)]
  rcases List.mem_append.mp hy with hy | hy
  · exact hn y (List.dropLast_subset _ hy)
  · rw [List.mem_singleton.mp hy]; exact hw
theorem norm_up {names : List Str} (hn : ∀ y ∈ names, y ∈ wordsL) (hl : names.length ≤ 20) : NormIs (joinP (PP names) (Str.ofString "..")) (PP names.dropLast) := by
  refine PP_norm (parts := [Str.ofString ".."]) hn hl (by decide +kernel) (by decide +kernel) (by decide +kernel) (by simp) (d := 46) (t := (Str.ofString "..").cps.toList.tail) (by decide +kernel) (by decide) (by decide +kernel) ?_ (fun y hy => hn y (List.dropLast_subset _ hy)) (by rw [List.length_dropLast]; omega)
  rw [List.foldl_cons, List.foldl_nil, step_up]
theorem norm_x {names : List Str} : NormIs (joinP (PP names) (Str.ofString "/x")) (PP [Str.ofString "x"]) := by
  rw [joinP1 (by decide +kernel)]
  exact ⟨by decide +kernel, by decide +kernel, by decide +kernel, Str.ofString "x", by decide +kernel, by decide +kernel, by decide +kernel⟩
theorem norm_root {names : List Str} : NormIs (joinP (PP names) (Str.ofString "/")) (PP []) := by
  rw [joinP1 (by decide +kernel)]
  exact ⟨by decide +kernel, by decide +kernel, by decide +kernel, Str.ofString "", by decide +kernel, by decide +kernel, by decide +kernel⟩
theorem norm_file {names : List Str} {j : Nat} {fd : Str} (hn : ∀ y ∈ names, y ∈ wordsL) (hl : names.length ≤ 20) (hj : filesT[j]? = some fd) : NormIs (joinP (PP names) fd) (PP (filesGo j names)) := by
  match j, hj with
  | 0, hj => cases hj; exact norm_one (d := 97) hn hl (by decide +kernel) (by decide +kernel) (by decide +kernel)
  | 1, hj => cases hj; exact norm_one (d := 113) hn hl (by decide +kernel) (by decide +kernel) (by decide +kernel)
  | 2, hj => cases hj; exact norm_n hn hl
  | 3, hj => cases hj; exact norm_b hn hl
  | 4, hj => cases hj; exact norm_x
theorem norm_way {names : List Str} {j : Nat} {wd : Str} (hn : ∀ y ∈ names, y ∈ wordsL) (hl : names.length ≤ 20) (hj : waysT[j]? = some wd) : NormIs (joinP (PP names) wd) (PP (waysGo j names)) := by
  match j, hj with
  | 0, hj => cases hj; exact norm_one (d := 97) hn hl (by decide +kernel) (by decide +kernel) (by decide +kernel)
  | 1, hj => cases hj; exact norm_up hn hl
  | 2, hj => cases hj; exact norm_one (d := 113) hn hl (by decide +kernel) (by decide +kernel) (by decide +kernel)
  | 3, hj => cases hj; exact norm_root
  | 4, hj => cases hj; exact norm_b hn hl
theorem word_len {j : Nat} {fd : Str} : (filesT[j]? = some fd ∨ waysT[j]? = some fd) → fd.length ≤ 20 := by
  have h1 : ∀ y ∈ filesT, y.length ≤ 20 := by decide +kernel
  have h2 : ∀ y ∈ waysT, y.length ≤ 20 := by decide +kernel
  rintro (h | h)
  · exact h1 fd (List.mem_of_getElem? h)
  · exact h2 fd (List.mem_of_getElem? h)
theorem dbl_len (c : Nat) : ∀ l : List Nat, (StrLaws.dbl c l).length ≤ 2 * l.length
  | [] => Nat.le_refl _
  | k :: r => by
    have ih := dbl_len c r
    show (if k = c then k :: k :: StrLaws.dbl c r else k :: StrLaws.dbl c r).length ≤ _
    split <;> simp only [List.length_cons] <;> omega
theorem p257_is {way : Str} (hl : way.length ≤ 500) : ∃ W, Txt.replace way (Str.ofString "\"") (Str.ofString "\"\"") = W ∧ W.length ≤ 1000 ∧ P257Is (Str.ofString "257 \"" ++ W ++ Str.ofString "\" is \"here\"") way := by
  have e1 : Str.ofString "\"" = ⟨#[34]⟩ := by decide +kernel
  have e2 : Str.ofString "\"\"" = ⟨#[34, 34]⟩ := by decide +kernel
  have hd : (Txt.replace way (Str.ofString "\"") (Str.ofString "\"\"")).cps.toList = StrLaws.dbl 34 way.cps.toList := by rw [e1, e2]; exact StrLaws.replace_double way 34
  refine ⟨_, rfl, ?_, ?_⟩
  · rw [← cps_len, hd]
    have := dbl_len 34 way.cps.toList
    rw [cps_len] at this
    omega
  generalize Txt.replace way (Str.ofString "\"") (Str.ofString "\"\"") = W at hd
  have hW : W.length ≤ 1000 := by
    rw [← cps_len, hd]
    have := dbl_len 34 way.cps.toList
    rw [cps_len] at this
    omega
  have l1 : (Str.ofString "257 \"").length = 5 := by decide +kernel
  have l2 : (Str.ofString "\" is \"here\"").length = 11 := by decide +kernel
  refine ⟨by rw [Str.length_append, Str.length_append]; omega, by omega, ?_, ?_, (Str.ofString "257 \"").cps.toList, (Str.ofString "is \"here\"").cps.toList, ?_, by decide +kernel⟩
  · rw [Str.append_assoc]
    exact (slice_none_app (p := Str.ofString "257 \"") (j := 3) (by omega) _).trans (by decide +kernel)
  · rw [Str.append_assoc]
    exact (slice_app (p := Str.ofString "257 \"") (i := 3) (j := 5) (by omega) (by omega) _).trans (by decide +kernel)
  · rw [cps_app, cps_app, hd]
    have e : (Str.ofString "\" is \"here\"").cps.toList = 34 :: 32 :: (Str.ofString "is \"here\"").cps.toList := by decide +kernel
    rw [e]
theorem marks_at {k3 : Nat} (h : k3 < 3) : ∃ c, c ∈ marks ∧ Txt.item (Str.ofString "|!~") (k3 : Int) = ⟨#[c]⟩ := by
  have : k3 = 0 ∨ k3 = 1 ∨ k3 = 2 := by omega
  rcases this with rfl | rfl | rfl
  · exact ⟨124, by decide, by decide +kernel⟩
  · exact ⟨33, by decide, by decide +kernel⟩
  · exact ⟨126, by decide, by decide +kernel⟩
/-- what a turn of talk asks of its number -/
structure TalkX (v : Int) (j c : Nat) (wd W : Str) (d : DS) : Prop where
  hw : Wrongs c (PP (filesGo j d.names))
  hf : (v.fdiv 3).fmod 3 = 0 ∨ (v.fdiv 3).fmod 3 = 1 ∨ (v.fdiv 3).fmod 3 = 2
  hr : Txt.replace (PP (waysGo j d.names)) (Str.ofString "\"") (Str.ofString "\"\"") = W
  lW : W.length ≤ 1000
  lP : (PP (waysGo j d.names)).length ≤ 500
  nW : NormIs (joinP (PP d.names) wd) (PP (waysGo j d.names))
  h257 : P257Is (Str.ofString "257 \"" ++ W ++ Str.ofString "\" is \"here\"") (PP (waysGo j d.names))
theorem talk_facts {lq lh ll lw lf : Addr} {ns qs : List Int} {mz m₁ : Str → Option Value} {i : Nat} {x fr : Int} {tfr tpl : Tok} {vH vQ vL vw vf : List Value} {tl : List (Addr × Obj)} {d : DS} (hxi : ns[i]? = some x) (hlen : ns.length ≤ 19) (hns : ∀ x ∈ ns, 0 ≤ x ∧ x < 1000000) (sF : StrsAre vf filesT) (sW : StrsAre vw waysT)
    (hS : TalkS lq lh ll lw lf ns mz i m₁ qs fr tfr tpl vH vQ vL tl d) : ∃ v κ j k3 c wd fd tw tf W, TalkF i x v κ j k3 c wd fd tw tf qs vH vQ vL vw vf d ∧ 0 ≤ κ ∧ κ < 6 ∧ TalkX v j c wd W d := by
  have hi : i < ns.length := (List.getElem?_eq_some_iff.mp hxi).1
  have hok : DOK i d := hS.ed ▸ dok_fold (fun y hy => (hns y hy).1) i (by omega)
  have hx0 : 0 ≤ x := (hns x (List.mem_of_getElem? hxi)).1
  have hv2 : x / 6 = x.fdiv 6 := (fdiv_of (by omega)).symm
  obtain ⟨j, hj, hj5⟩ := nat_of (x := x.fdiv 6) (k := 5) (by omega)
  obtain ⟨k3, hk3, hk35⟩ := nat_of (x := x.fdiv 6) (k := 3) (by omega)
  obtain ⟨c, hc, hmk⟩ := marks_at (k3 := k3) (by omega)
  obtain ⟨wd, hwd⟩ : ∃ wd, waysT[j]? = some wd := ⟨_, List.getElem?_eq_getElem (by show j < 5; omega)⟩
  obtain ⟨fd, hfd⟩ : ∃ fd, filesT[j]? = some fd := ⟨_, List.getElem?_eq_getElem (by show j < 5; omega)⟩
  obtain ⟨tw, hW⟩ := strs_item sW hwd (by omega)
  obtain ⟨tf, hF⟩ := strs_item sF hfd (by omega)
  have hw3 := ways_in (j := j) hok.nm hok.nl
  have hf3 := files_in (j := j) hok.nm hok.nl
  have lw3 := PP_len hw3.1
  have lf3 := PP_len hf3.1
  have ln3 := PP_len hok.nm
  have hnl := hok.nl
  have lPf : (PP (filesGo j d.names)).length ≤ 500 := by omega
  have lPw : (PP (waysGo j d.names)).length ≤ 500 := by omega
  have lP0 : 0 < (PP d.names).length := by
    have h1 : (Str.ofString "/").length = 1 := by decide +kernel
    unfold PP
    rw [Str.length_append]; omega
  obtain ⟨W, hr, lW, h257⟩ := p257_is lPw
  refine ⟨_, x % 6, j, k3, c, wd, fd, tw, tf, W, ⟨hok, fmod_of (by omega), rfl, rfl, hv2, hj, hj5, (fmod_of (by omega)).trans hj, (fmod_of (by omega)).trans hk3, hk35, by decide +kernel, hmk, hW, hF, hS.hin.length, hS.dl.length, hS.fo.len4, hok.hl, hok.ll, by omega, fun p hp => (hok.ho p hp).1, by omega, lP0, word_len (.inr hwd), word_len (.inl hfd), norm_file hok.nm (by omega) hfd, lPf, fun p h1 h2 => ok_at hc (by omega) h1 h2⟩,
    Int.emod_nonneg x (by omega), Int.emod_lt_of_pos x (by omega), wrongs_at hc (by omega), ?_, hr, lW, lPw, norm_way hok.nm (by omega) hwd, h257⟩
  rw [fmod_of (by omega)]
  omega
end
section
open PySem PySem.W PyProof.Rows PySem.Calls PySem.Spec
set_option maxRecDepth 100000
set_option maxHeartbeats 0
theorem lines_C12t2a_1 : True := by
  k_with_none
  k_with "eval Constant int" => (refine flat_int ?_)
  k_with "eval Constant str" => (refine flat_str ?_)
  k_with "call builtin:issubclass" => (k_here; k_dflt (refine' issub_call ?kqk1 ?_; (case kqk1 => exact News.get (by k_asm) (by k_mem)); k_whole); intro tk)
  k_with "callWith" => (k_here; (with_reducible show wpAny _ _ (callWith _ (Value.builtin _) (_ :: _) _ _) _ _ _); refine callWith_method1 ?_)
  trivial
section
variable {w : World} {mean : ExcName → Option Value} {mg mb : Str → Option Value} {dp un : Nat} {gd : Option (List Code)} {cn : Str} {cs : Scope} {a : Addr} {ccd : Value} {cl : List (Str × Addr)} {outer : List Env} {A₀ : Around} {base h₀ : Heap} {L : Addr} {m : Str → Option Value} {news : List (Addr × Obj)} {s : Shared} {Q E : Value → Shared → Prop}
theorem lines_C12t2a_2 : True := by
  k_with "exec Try" => (k_here; (refine hold_it ?_))
  k_with "call ref" => (k_here; (with_reducible show wpAny _ _ (call (Value.ref 201) _) _ _ _); k_dflt (refine' join_spec ?kqh1 ?kqh2 ?kqh3 ?kqk1 ?kqk2 ?kqk3 ?kqk4 ?kqk5 ?kqkK ?kqkd ?kqku ?_; (case kqh1 => omega); (case kqh2 => omega); (case kqh3 => omega); (case kqk1 => k_asm); (case kqk2 => k_asm); (case kqk3 => k_asm); (case kqk4 => k_asm); (case kqk5 => k_asm); (case kqkK => first | exact rfl | assumption); (case kqkd => ktr_room); (case kqku => ktr_units); k_whole); intro t' h' tk' F' N'; (try k_sweep))
  k_with "call ref" => (k_here; (with_reducible show wpAny _ _ (call (Value.ref 215) _) _ _ _); k_dflt (refine' norm_as ?kqh1 ?kqk1 ?kqk2 ?kqk3 ?kqk4 ?kqk5 ?kqkK ?kqkd ?kqku ?_; (case kqh1 => assumption); (case kqk1 => k_asm); (case kqk2 => k_asm); (case kqk3 => k_asm); (case kqk4 => k_asm); (case kqk5 => k_asm); (case kqkK => first | exact rfl | assumption); (case kqkd => ktr_room); (case kqku => ktr_units); k_whole); intro t' h' tk' F' N'; (try k_sweep))
  k_with "call ref" => (k_here; (with_reducible show wpAny _ _ (call (Value.ref 229) _) _ _ _); k_dflt (refine' answer_spec ?kqh1 ?kqh2 ?kqh3 ?kqk1 ?kqk2 ?kqk3 ?kqk4 ?kqk5 ?kqkK ?kqkd ?kqku ?_; (case kqh1 => omega); (case kqh2 => omega); (case kqh3 => omega); (case kqk1 => k_asm); (case kqk2 => k_asm); (case kqk3 => k_asm); (case kqk4 => k_asm); (case kqk5 => k_asm); (case kqkK => first | exact rfl | assumption); (case kqkd => ktr_room); (case kqku => ktr_units); k_whole); intro t' h' tk' F' N'; (try k_sweep))
  k_with "call ref" => (k_here; (with_reducible show wpAny _ _ (call (Value.ref 65) _) _ _ _); k_dflt (refine' p229ok_at ?kqho ?kqh1 ?kqh2 ?kqk1 ?kqk2 ?kqk3 ?kqk4 ?kqk5 ?kqkK ?kqkd ?kqku ?kqkm ?_; (case kqho => assumption); (case kqh1 => assumption); (case kqh2 => assumption); (case kqk1 => k_asm); (case kqk2 => k_asm); (case kqk3 => k_asm); (case kqk4 => k_asm); (case kqk5 => k_asm); (case kqkK => first | exact rfl | assumption); (case kqkd => ktr_room); (case kqku => ktr_units); (case kqkm => k_mem); k_whole); intro r' t' h' tk' D' F' N'; (replace D' := allNeA_of D'); (simp only [AllNeA, and_true] at D'); (repeat (obtain ⟨_, D'⟩ := D')); (try k_sweep))
  k_with "call ref" => (k_here; (with_reducible show wpAny _ _ (call (Value.ref 79) _) _ _ _); k_dflt (refine' push_K ?kqh1 ?kqh2 ?kqh3 ?kqk1 ?kqk2 ?kqk3 ?kqk4 ?kqkU ?kqk5 ?kqkK ?kqkd ?kqku ?_; (case kqk1 => k_asm); (case kqk2 => k_asm); (case kqk3 => k_asm); (case kqk4 => k_asm); (case kqkU => k_updF); (case kqh2 => assumption); (case kqh1 => omega); (case kqh3 => assumption); (case kqk5 => k_asm); (case kqkK => first | exact rfl | assumption); (case kqkd => ktr_room); (case kqku => ktr_units); k_whole); intro vs' n' ns' h' tk' I' P' H' F' N'; (try k_sweep))
  k_with "call ref" => (k_here; (with_reducible show wpAny _ _ (call (Value.ref 86) _) _ _ _); k_dflt (refine' pop_R ?kqh1 ?kqh2 ?kqh3 ?kqhR ?kqk1 ?kqk2 ?kqk3 ?kqk4 ?kqkU ?kqk5 ?kqkK ?kqkd ?kqku ?_; (case kqk1 => k_asm); (case kqk2 => k_asm); (case kqk3 => k_asm); (case kqk4 => k_asm); (case kqkU => k_updF); (case kqh2 => assumption); (case kqh1 => omega); (case kqh3 => assumption); (case kqk5 => k_asm); (case kqkK => first | exact rfl | assumption); (case kqkd => ktr_room); (case kqku => ktr_units); (case kqhR => assumption); k_whole); intro vs' n' ns' r' t' h' tk' I' P' H' M' R1' R2' G' F' N'; (try k_sweep))
  k_with "call ref" => (k_here; (with_reducible show wpAny _ _ (call (Value.ref 93) _) _ _ _); k_dflt (refine' pushpop_R ?kqh1 ?kqh2 ?kqh3 ?kqhR ?kqk1 ?kqk2 ?kqk3 ?kqk4 ?kqkU ?kqk5 ?kqkK ?kqkd ?kqku ?_; (case kqk1 => k_asm); (case kqk2 => k_asm); (case kqk3 => k_asm); (case kqk4 => k_asm); (case kqkU => k_updF); (case kqh2 => assumption); (case kqh1 => omega); (case kqh3 => assumption); (case kqk5 => k_asm); (case kqkK => first | exact rfl | assumption); (case kqkd => ktr_room); (case kqku => ktr_units); (case kqhR => assumption); k_whole); intro vs' n' ns' r' t' h' tk' I' P' H' M' R1' R2' F' N'; (try k_sweep))
  k_with "binaryOp Mod int int" => (k_here; k_dflt (refine' s_mod ?kqf ?kqb ?_; (case kqf => assumption); (case kqb => omega); k_whole); intro t' k')
  k_with "binaryOp FloorDiv int int" => (k_here; k_dflt (refine' s_div ?kqf ?kqb ?kqc ?_; (case kqf => assumption); (case kqb => omega); (case kqc => omega); k_whole); intro t' k')
  k_with "subscriptTail Name BinOp ref int" => (k_here; k_dflt (refine' l_itemAs ?kqh ?kqn ?kqm ?_ ?kqk6; (case kqn => k_asm); (case kqm => k_mem); (case kqh => assumption); (case kqk6 => with_unfolding_all rfl); k_whole))
  k_with "subscriptTail Constant" => (k_here; k_dflt (refine' s_item ?kqz0 ?kqz1 ?kqz2 ?kqz ?_ ?kqy1 ?kqy2; (case kqz => assumption); (case kqz0 => omega); (case kqz1 => omega); (case kqz2 => omega); (case kqy1 => with_unfolding_all rfl); (case kqy2 => (intro _; with_unfolding_all rfl)); k_whole); intro t' k')
  k_with "subscriptTail Call Constant ref int" => (k_here; k_dflt (refine' l_tup0 ?kqn ?kqm ?_ ?kqk6; (case kqn => k_asm); (case kqm => k_mem); (case kqk6 => with_unfolding_all rfl); k_whole))
  k_with "compareOp NotEq ref ref" => (k_here; k_dflt (refine' l_neNil ?kqn ?kqm ?kqm2 ?kqhh ?kqht ?kqho ?kqhu ?kqhb ?_; (case kqn => k_asm); (case kqm => k_mem); (case kqm2 => k_mem); (case kqhh => assumption); (case kqht => (intro p hp; k_mem)); (case kqho => assumption); (case kqhb => assumption); (case kqhu => ktr_units); k_whole))
  k_with "compareOp NotEq ref ref" => (k_here; k_dflt (refine' l_neInts ?kqn ?kqm ?kqm2 ?kqhI ?kqhu ?kqhb ?_; (case kqn => k_asm); (case kqm => k_mem); (case kqm2 => k_mem); (case kqhI => assumption); (case kqhb => assumption); (case kqhu => ktr_units); k_whole))
  k_with "call builtin:len" => (k_here; k_dflt (refine' l_len ?kqn ?kqm ?kqz ?_; (case kqn => k_asm); (case kqm => k_mem); (case kqz => omega); k_whole); intro t' k')
  k_with "call builtin:list.append" => (k_here; k_dflt (refine' l_append ?kqk1 ?kqk2 ?kqk3 ?kqz ?_; (case kqk1 => k_asm); (case kqk2 => k_asm); (case kqk3 => k_upd); (case kqz => first | (simp only [List.length_append, List.length_cons, List.length_nil]; omega) | omega); k_whole); intro h' F' N'; (try k_sweep))
  k_with "call builtin:list.pop" => (k_here; k_dflt (refine' l_popAt ?kqk1 ?kqk2 ?kqe ?kqk3 ?kqz ?_; (case kqk1 => k_asm); (case kqk2 => k_asm); (case kqk3 => k_upd); (case kqe => assumption); (case kqz => omega); k_whole); intro h' F' N'; (try k_sweep))
  k_with "compareOp Eq int int" => (k_here; refine' s_eqI ?kqf ?_; (case kqf => with_reducible assumption); k_whole)
  k_with "compareOp Lt int int" => (k_here; refine' s_ltI ?kqf ?_; (case kqf => with_reducible assumption); k_whole)
  k_with "compareOp NotEq int int" => (k_here; refine' s_neI ?kqf ?_; (case kqf => with_reducible assumption); k_whole)
  k_with "compareOp Gt int int" => (k_here; refine' s_gtI ?kqf ?_; (case kqf => with_reducible assumption); k_whole)
  trivial
theorem talk_t2a {g₀ g h : Heap} {L₂ lq lh ll lw lf lnum It : Addr} {oI : Obj} {QF : Flow → Shared → Prop} {ns qs : List Int} {mz m₁ : Str → Option Value} {i j k3 c : Nat} {x v κ fr : Int} {wd fd : Str} {t u1 u2 u3 u4 tw tf tfr tpl : Tok} {vH vQ vL vw vf vsN : List Value} {nH nQ nL nw nf n tk : Nat} {tl : List (Addr × Obj)} {d : DS}
   (XB : (hd.heap_39 w.params).In base) (TB : Top hd.view_39 (looseW hd.view_39 []) mean mg mb base) (B : Below (ktrTop dp un gd cn cs L a ccd [] []) base [envOf cn cs L a ccd] g) (X : (hd.heap_39 w.params).In g) (T : Top hd.view_39 (looseW hd.view_39 []) mean mg mb g) (D : KtsDicts ([envOf cn cs L a ccd].filterMap (·.frame)) g) (K : KtsTurn ([envOf cn cs L a ccd].filterMap (·.frame)) g₀ g) (hk : cs.kind = .function) (hdp : dp + 6 < recursionLimit) (hun : un + 100 < cLine)
   (hxi : ns[i]? = some x) (hS : TalkS lq lh ll lw lf ns mz i m₁ qs fr tfr tpl vH vQ vL tl d) (hne : ∀ p ∈ tl, p.1 ≠ It) (hnI : ∀ p ∈ [ll, lh, lq, lw, lf, lnum], p ≠ It)
   (lo : (NeA lw ll ∧ NeA lf ll ∧ NeA lnum ll ∧ NeA lw lh ∧ NeA lf lh ∧ NeA lnum lh ∧ NeA lw lq ∧ NeA lf lq ∧ NeA lnum lq) ∧ NeA lh ll ∧ NeA lq ll ∧ NeA lq lh) (FF : TalkF i x v κ j k3 c wd fd tw tf qs vH vQ vL vw vf d) (hc : κ = 2) (hd : d.held = [])
   (F1 : Fr g L₂ h (fun y => if y = Str.ofString "name" then some (.str (PP (filesGo j d.names)) u4) else if y = Str.ofString "mark" then some (.str ⟨#[c]⟩ u3) else if y = Str.ofString "value" then some (.int v u2) else if y = Str.ofString "kind" then some (.int κ u1) else if y = Str.ofString "x" then some (.int x t) else talkFr mz m₁ lq lh ll lw lf fr tfr (PP d.names) tpl y))
   (N1 : News g L₂ h ((ll, listOf vL.toArray nL) :: (lh, listOf vH.toArray nH) :: (lq, listOf vQ.toArray nQ) :: (lw, listOf vw.toArray nw) :: (lf, listOf vf.toArray nf) :: (lnum, listOf vsN.toArray n) :: (It, oI) :: tl)) :
   wpAny (model Challenge.rw_pd0171_01.row.prog w) ((ktrTop dp un gd cn cs L a ccd [] []).deeper (envOf (Str.ofString "_law_talk") (fnScope w.params 236) L₂ 236 (.ref 235))) (execs (talkLast w.params) (envOf (Str.ofString "_law_talk") (fnScope w.params 236) L₂ 236 (.ref 235))) (GEnd (TalkG w mean mg mb (ktrTop dp un gd cn cs L a ccd [] []) base g₀ [envOf cn cs L a ccd]) L₂ lnum It oI (listOf vsN.toArray n) (TalkJ ⟨lq, lh, ll, lw, lf, lnum, vw, vf, vsN, nw, nf, n⟩ ns mz (i + 1)) s QF) E { s with heap := h, toks := tk } := by
  revert X
  k_fill
  intro X
  refine noE ?_
  obtain ⟨nI1, nI2, nI3, nI4, nI5, nI6⟩ := nI_A hnI
  obtain ⟨⟨lo1, lo2, lo3, lo4, lo5, lo6, lo7, lo8, lo9⟩, lo10, lo11, lo12⟩ := lo
  have hoff := hS.off
  have hin := hS.hin
  have hdl := hS.dl
  have hq := hS.hq
  have fo := hS.fo
  have hpo := fo.hp
  obtain ⟨hok, hk6, hkk, hv, hv2, hj, hj5, hj2, hm2, hm3, hm4, hmk, hW, hF, lH, lL, lQ, b2, b3, b4, hho, lp, lp0, lw1, lf1, nF, nFl, hOk0⟩ := FF
  have hOk : OkFor c (PP (filesGo j d.names)) := ⟨hOk0⟩
  clear hOk0
  (with_unfolding_all conv in (talkLast _) => whnf)
  (with_unfolding_all conv in (occs := *) (fnScope _ _) => all_goals whnf)
  subst hc
  have he : d.held.isEmpty = true := by rw [hd]; rfl
  clear hOk
  k_steps
  exact talk_fin0 (c := ⟨lq, lh, ll, lw, lf, lnum, vw, vf, vsN, nw, nf, n⟩) ⟨by assumption, by assumption, by assumption, by assumption, by assumption⟩ ⟨by k_asm, by k_asm, ⟨List.forall_mem_cons.mpr ⟨by with_unfolding_all rfl, List.forall_mem_cons.mpr ⟨by with_unfolding_all rfl, List.forall_mem_cons.mpr ⟨by with_unfolding_all rfl, List.forall_mem_cons.mpr ⟨by with_unfolding_all rfl, List.forall_mem_cons.mpr ⟨by with_unfolding_all rfl, List.forall_mem_cons.mpr ⟨by with_unfolding_all rfl, List.forall_mem_cons.mpr ⟨by with_unfolding_all rfl, List.forall_mem_nil _⟩⟩⟩⟩⟩⟩⟩, fun z hz hs => by (obtain ⟨z1, z2, z3, z4, z5, z6, z7, z8, z9, z10, z11⟩ := talkZ hs; obtain ⟨y1, y2, y3, y4, y5, y6, y7⟩ := talkY hz; simp only [kstB, tryPs, talkFr, talkPs, if_neg z1, if_neg z2, if_neg z3, if_neg z4, if_neg z5, if_neg z6, if_neg z7, if_neg z8, if_neg z9, if_neg z10, if_neg z11, if_neg y1, if_neg y2, if_neg y3, if_neg y4, if_neg y5, if_neg y6, if_neg y7, hs, Bool.false_eq_true, if_false])⟩, hxi, hS.ed, (step_idle (.inl hkk) hd).symm, by k_mem, by k_mem, by k_mem, by k_mem, hnI, (fun p hp => by k_mem), hne, hS.off⟩ (by k_mem) (by k_mem) (by k_mem) hq fo hin hdl
end
end
section
open PySem PySem.W PyProof.Rows PySem.Calls PySem.Spec
set_option maxRecDepth 100000
set_option maxHeartbeats 0
theorem lines_C12t2b_1 : True := by
  k_with_none
  k_with "eval Constant int" => (refine flat_int ?_)
  k_with "eval Constant str" => (refine flat_str ?_)
  k_with "call builtin:issubclass" => (k_here; k_dflt (refine' issub_call ?kqk1 ?_; (case kqk1 => exact News.get (by k_asm) (by k_mem)); k_whole); intro tk)
  k_with "callWith" => (k_here; (with_reducible show wpAny _ _ (callWith _ (Value.builtin _) (_ :: _) _ _) _ _ _); refine callWith_method1 ?_)
  trivial
section
variable {w : World} {mean : ExcName → Option Value} {mg mb : Str → Option Value} {dp un : Nat} {gd : Option (List Code)} {cn : Str} {cs : Scope} {a : Addr} {ccd : Value} {cl : List (Str × Addr)} {outer : List Env} {A₀ : Around} {base h₀ : Heap} {L : Addr} {m : Str → Option Value} {news : List (Addr × Obj)} {s : Shared} {Q E : Value → Shared → Prop}
theorem lines_C12t2b_2 : True := by
  k_with "exec Try" => (k_here; (refine hold_it ?_))
  k_with "call ref" => (k_here; (with_reducible show wpAny _ _ (call (Value.ref 201) _) _ _ _); k_dflt (refine' join_spec ?kqh1 ?kqh2 ?kqh3 ?kqk1 ?kqk2 ?kqk3 ?kqk4 ?kqk5 ?kqkK ?kqkd ?kqku ?_; (case kqh1 => omega); (case kqh2 => omega); (case kqh3 => omega); (case kqk1 => k_asm); (case kqk2 => k_asm); (case kqk3 => k_asm); (case kqk4 => k_asm); (case kqk5 => k_asm); (case kqkK => first | exact rfl | assumption); (case kqkd => ktr_room); (case kqku => ktr_units); k_whole); intro t' h' tk' F' N'; (try k_sweep))
  k_with "call ref" => (k_here; (with_reducible show wpAny _ _ (call (Value.ref 215) _) _ _ _); k_dflt (refine' norm_as ?kqh1 ?kqk1 ?kqk2 ?kqk3 ?kqk4 ?kqk5 ?kqkK ?kqkd ?kqku ?_; (case kqh1 => assumption); (case kqk1 => k_asm); (case kqk2 => k_asm); (case kqk3 => k_asm); (case kqk4 => k_asm); (case kqk5 => k_asm); (case kqkK => first | exact rfl | assumption); (case kqkd => ktr_room); (case kqku => ktr_units); k_whole); intro t' h' tk' F' N'; (try k_sweep))
  k_with "call ref" => (k_here; (with_reducible show wpAny _ _ (call (Value.ref 229) _) _ _ _); k_dflt (refine' answer_spec ?kqh1 ?kqh2 ?kqh3 ?kqk1 ?kqk2 ?kqk3 ?kqk4 ?kqk5 ?kqkK ?kqkd ?kqku ?_; (case kqh1 => omega); (case kqh2 => omega); (case kqh3 => omega); (case kqk1 => k_asm); (case kqk2 => k_asm); (case kqk3 => k_asm); (case kqk4 => k_asm); (case kqk5 => k_asm); (case kqkK => first | exact rfl | assumption); (case kqkd => ktr_room); (case kqku => ktr_units); k_whole); intro t' h' tk' F' N'; (try k_sweep))
  k_with "call ref" => (k_here; (with_reducible show wpAny _ _ (call (Value.ref 65) _) _ _ _); k_dflt (refine' p229ok_at ?kqho ?kqh1 ?kqh2 ?kqk1 ?kqk2 ?kqk3 ?kqk4 ?kqk5 ?kqkK ?kqkd ?kqku ?kqkm ?_; (case kqho => assumption); (case kqh1 => assumption); (case kqh2 => assumption); (case kqk1 => k_asm); (case kqk2 => k_asm); (case kqk3 => k_asm); (case kqk4 => k_asm); (case kqk5 => k_asm); (case kqkK => first | exact rfl | assumption); (case kqkd => ktr_room); (case kqku => ktr_units); (case kqkm => k_mem); k_whole); intro r' t' h' tk' D' F' N'; (replace D' := allNeA_of D'); (simp only [AllNeA, and_true] at D'); (repeat (obtain ⟨_, D'⟩ := D')); (try k_sweep))
  k_with "call ref" => (k_here; (with_reducible show wpAny _ _ (call (Value.ref 79) _) _ _ _); k_dflt (refine' push_K ?kqh1 ?kqh2 ?kqh3 ?kqk1 ?kqk2 ?kqk3 ?kqk4 ?kqkU ?kqk5 ?kqkK ?kqkd ?kqku ?_; (case kqk1 => k_asm); (case kqk2 => k_asm); (case kqk3 => k_asm); (case kqk4 => k_asm); (case kqkU => k_updF); (case kqh2 => assumption); (case kqh1 => omega); (case kqh3 => assumption); (case kqk5 => k_asm); (case kqkK => first | exact rfl | assumption); (case kqkd => ktr_room); (case kqku => ktr_units); k_whole); intro vs' n' ns' h' tk' I' P' H' F' N'; (try k_sweep))
  k_with "call ref" => (k_here; (with_reducible show wpAny _ _ (call (Value.ref 86) _) _ _ _); k_dflt (refine' pop_R ?kqh1 ?kqh2 ?kqh3 ?kqhR ?kqk1 ?kqk2 ?kqk3 ?kqk4 ?kqkU ?kqk5 ?kqkK ?kqkd ?kqku ?_; (case kqk1 => k_asm); (case kqk2 => k_asm); (case kqk3 => k_asm); (case kqk4 => k_asm); (case kqkU => k_updF); (case kqh2 => assumption); (case kqh1 => omega); (case kqh3 => assumption); (case kqk5 => k_asm); (case kqkK => first | exact rfl | assumption); (case kqkd => ktr_room); (case kqku => ktr_units); (case kqhR => assumption); k_whole); intro vs' n' ns' r' t' h' tk' I' P' H' M' R1' R2' G' F' N'; (try k_sweep))
  k_with "call ref" => (k_here; (with_reducible show wpAny _ _ (call (Value.ref 93) _) _ _ _); k_dflt (refine' pushpop_R ?kqh1 ?kqh2 ?kqh3 ?kqhR ?kqk1 ?kqk2 ?kqk3 ?kqk4 ?kqkU ?kqk5 ?kqkK ?kqkd ?kqku ?_; (case kqk1 => k_asm); (case kqk2 => k_asm); (case kqk3 => k_asm); (case kqk4 => k_asm); (case kqkU => k_updF); (case kqh2 => assumption); (case kqh1 => omega); (case kqh3 => assumption); (case kqk5 => k_asm); (case kqkK => first | exact rfl | assumption); (case kqkd => ktr_room); (case kqku => ktr_units); (case kqhR => assumption); k_whole); intro vs' n' ns' r' t' h' tk' I' P' H' M' R1' R2' F' N'; (try k_sweep))
  k_with "binaryOp Mod int int" => (k_here; k_dflt (refine' s_mod ?kqf ?kqb ?_; (case kqf => assumption); (case kqb => omega); k_whole); intro t' k')
  k_with "binaryOp FloorDiv int int" => (k_here; k_dflt (refine' s_div ?kqf ?kqb ?kqc ?_; (case kqf => assumption); (case kqb => omega); (case kqc => omega); k_whole); intro t' k')
  k_with "subscriptTail Name BinOp ref int" => (k_here; k_dflt (refine' l_itemAs ?kqh ?kqn ?kqm ?_ ?kqk6; (case kqn => k_asm); (case kqm => k_mem); (case kqh => assumption); (case kqk6 => with_unfolding_all rfl); k_whole))
  k_with "subscriptTail Constant" => (k_here; k_dflt (refine' s_item ?kqz0 ?kqz1 ?kqz2 ?kqz ?_ ?kqy1 ?kqy2; (case kqz => assumption); (case kqz0 => omega); (case kqz1 => omega); (case kqz2 => omega); (case kqy1 => with_unfolding_all rfl); (case kqy2 => (intro _; with_unfolding_all rfl)); k_whole); intro t' k')
  k_with "subscriptTail Call Constant ref int" => (k_here; k_dflt (refine' l_tup0 ?kqn ?kqm ?_ ?kqk6; (case kqn => k_asm); (case kqm => k_mem); (case kqk6 => with_unfolding_all rfl); k_whole))
  k_with "compareOp NotEq ref ref" => (k_here; k_dflt (refine' l_neNil ?kqn ?kqm ?kqm2 ?kqhh ?kqht ?kqho ?kqhu ?kqhb ?_; (case kqn => k_asm); (case kqm => k_mem); (case kqm2 => k_mem); (case kqhh => assumption); (case kqht => (intro p hp; k_mem)); (case kqho => assumption); (case kqhb => assumption); (case kqhu => ktr_units); k_whole))
  k_with "compareOp NotEq ref ref" => (k_here; k_dflt (refine' l_neInts ?kqn ?kqm ?kqm2 ?kqhI ?kqhu ?kqhb ?_; (case kqn => k_asm); (case kqm => k_mem); (case kqm2 => k_mem); (case kqhI => assumption); (case kqhb => assumption); (case kqhu => ktr_units); k_whole))
  k_with "call builtin:len" => (k_here; k_dflt (refine' l_len ?kqn ?kqm ?kqz ?_; (case kqn => k_asm); (case kqm => k_mem); (case kqz => omega); k_whole); intro t' k')
  k_with "call builtin:list.append" => (k_here; k_dflt (refine' l_append ?kqk1 ?kqk2 ?kqk3 ?kqz ?_; (case kqk1 => k_asm); (case kqk2 => k_asm); (case kqk3 => k_upd); (case kqz => first | (simp only [List.length_append, List.length_cons, List.length_nil]; omega) | omega); k_whole); intro h' F' N'; (try k_sweep))
  k_with "call builtin:list.pop" => (k_here; k_dflt (refine' l_popAt ?kqk1 ?kqk2 ?kqe ?kqk3 ?kqz ?_; (case kqk1 => k_asm); (case kqk2 => k_asm); (case kqk3 => k_upd); (case kqe => assumption); (case kqz => omega); k_whole); intro h' F' N'; (try k_sweep))
  k_with "compareOp Eq int int" => (k_here; refine' s_eqI ?kqf ?_; (case kqf => with_reducible assumption); k_whole)
  k_with "compareOp Lt int int" => (k_here; refine' s_ltI ?kqf ?_; (case kqf => with_reducible assumption); k_whole)
  k_with "compareOp NotEq int int" => (k_here; refine' s_neI ?kqf ?_; (case kqf => with_reducible assumption); k_whole)
  k_with "compareOp Gt int int" => (k_here; refine' s_gtI ?kqf ?_; (case kqf => with_reducible assumption); k_whole)
  trivial
theorem talk_t2b {g₀ g h : Heap} {L₂ lq lh ll lw lf lnum It : Addr} {oI : Obj} {QF : Flow → Shared → Prop} {ns qs : List Int} {mz m₁ : Str → Option Value} {i j k3 c : Nat} {x v κ fr : Int} {wd fd : Str} {t u1 u2 u3 u4 tw tf tfr tpl : Tok} {vH vQ vL vw vf vsN : List Value} {nH nQ nL nw nf n tk : Nat} {tl : List (Addr × Obj)} {d : DS}
   (XB : (hd.heap_39 w.params).In base) (TB : Top hd.view_39 (looseW hd.view_39 []) mean mg mb base) (B : Below (ktrTop dp un gd cn cs L a ccd [] []) base [envOf cn cs L a ccd] g) (X : (hd.heap_39 w.params).In g) (T : Top hd.view_39 (looseW hd.view_39 []) mean mg mb g) (D : KtsDicts ([envOf cn cs L a ccd].filterMap (·.frame)) g) (K : KtsTurn ([envOf cn cs L a ccd].filterMap (·.frame)) g₀ g) (hk : cs.kind = .function) (hdp : dp + 6 < recursionLimit) (hun : un + 100 < cLine)
   (hxi : ns[i]? = some x) (hS : TalkS lq lh ll lw lf ns mz i m₁ qs fr tfr tpl vH vQ vL tl d) (hne : ∀ p ∈ tl, p.1 ≠ It) (hnI : ∀ p ∈ [ll, lh, lq, lw, lf, lnum], p ≠ It)
   (lo : (NeA lw ll ∧ NeA lf ll ∧ NeA lnum ll ∧ NeA lw lh ∧ NeA lf lh ∧ NeA lnum lh ∧ NeA lw lq ∧ NeA lf lq ∧ NeA lnum lq) ∧ NeA lh ll ∧ NeA lq ll ∧ NeA lq lh) (FF : TalkF i x v κ j k3 c wd fd tw tf qs vH vQ vL vw vf d) (hc : κ = 2) (hd : ¬ d.held = [])
   (F1 : Fr g L₂ h (fun y => if y = Str.ofString "name" then some (.str (PP (filesGo j d.names)) u4) else if y = Str.ofString "mark" then some (.str ⟨#[c]⟩ u3) else if y = Str.ofString "value" then some (.int v u2) else if y = Str.ofString "kind" then some (.int κ u1) else if y = Str.ofString "x" then some (.int x t) else talkFr mz m₁ lq lh ll lw lf fr tfr (PP d.names) tpl y))
   (N1 : News g L₂ h ((ll, listOf vL.toArray nL) :: (lh, listOf vH.toArray nH) :: (lq, listOf vQ.toArray nQ) :: (lw, listOf vw.toArray nw) :: (lf, listOf vf.toArray nf) :: (lnum, listOf vsN.toArray n) :: (It, oI) :: tl)) :
   wpAny (model Challenge.rw_pd0171_01.row.prog w) ((ktrTop dp un gd cn cs L a ccd [] []).deeper (envOf (Str.ofString "_law_talk") (fnScope w.params 236) L₂ 236 (.ref 235))) (execs (talkLast w.params) (envOf (Str.ofString "_law_talk") (fnScope w.params 236) L₂ 236 (.ref 235))) (GEnd (TalkG w mean mg mb (ktrTop dp un gd cn cs L a ccd [] []) base g₀ [envOf cn cs L a ccd]) L₂ lnum It oI (listOf vsN.toArray n) (TalkJ ⟨lq, lh, ll, lw, lf, lnum, vw, vf, vsN, nw, nf, n⟩ ns mz (i + 1)) s QF) E { s with heap := h, toks := tk } := by
  revert X
  k_fill
  intro X
  refine noE ?_
  obtain ⟨nI1, nI2, nI3, nI4, nI5, nI6⟩ := nI_A hnI
  obtain ⟨⟨lo1, lo2, lo3, lo4, lo5, lo6, lo7, lo8, lo9⟩, lo10, lo11, lo12⟩ := lo
  have hoff := hS.off
  have hin := hS.hin
  have hdl := hS.dl
  have hq := hS.hq
  have fo := hS.fo
  have hpo := fo.hp
  obtain ⟨hok, hk6, hkk, hv, hv2, hj, hj5, hj2, hm2, hm3, hm4, hmk, hW, hF, lH, lL, lQ, b2, b3, b4, hho, lp, lp0, lw1, lf1, nF, nFl, hOk0⟩ := FF
  have hOk : OkFor c (PP (filesGo j d.names)) := ⟨hOk0⟩
  clear hOk0
  (with_unfolding_all conv in (talkLast _) => whnf)
  (with_unfolding_all conv in (occs := *) (fnScope _ _) => all_goals whnf)
  subst hc
  have he : d.held.isEmpty = false := by simpa using hd
  have hlp : 0 < d.held.length := List.length_pos_iff.mpr hd
  obtain ⟨k, hkd, hk4⟩ := nat_of (x := v) (k := (d.held.length : Int)) (by omega)
  have hkp : v.fmod (vH.length : Int) = (k : Int) := by rw [lH]; exact (fmod_of (by omega)).trans hkd
  have hin2 := hin.erase k
  obtain ⟨pk, nk, ak, tk1, tk2, pV, qV, rfl, hmk2, hpl, hat, heq⟩ := HeldIn.at hin k (by omega)
  have hpl' : (k : Int) = (pV.length : Int) := by omega
  have hql : pV.length + qV.length ≤ 4 := by (have l9 := lH; simp only [List.length_append, List.length_cons] at l9; omega)
  rw [heq] at hin2
  have hst : step d x = _ := step_close hkk hd (hv2 ▸ hkd)
  clear hOk
  k_steps
  exact talk_fin0 (c := ⟨lq, lh, ll, lw, lf, lnum, vw, vf, vsN, nw, nf, n⟩) ⟨by assumption, by assumption, by assumption, by assumption, by assumption⟩ ⟨by k_asm, by k_asm, ⟨List.forall_mem_cons.mpr ⟨by with_unfolding_all rfl, List.forall_mem_cons.mpr ⟨by with_unfolding_all rfl, List.forall_mem_cons.mpr ⟨by with_unfolding_all rfl, List.forall_mem_cons.mpr ⟨by with_unfolding_all rfl, List.forall_mem_cons.mpr ⟨by with_unfolding_all rfl, List.forall_mem_cons.mpr ⟨by with_unfolding_all rfl, List.forall_mem_cons.mpr ⟨by with_unfolding_all rfl, List.forall_mem_nil _⟩⟩⟩⟩⟩⟩⟩, fun z hz hs => by (obtain ⟨z1, z2, z3, z4, z5, z6, z7, z8, z9, z10, z11⟩ := talkZ hs; obtain ⟨y1, y2, y3, y4, y5, y6, y7⟩ := talkY hz; simp only [kstB, tryPs, talkFr, talkPs, if_neg z1, if_neg z2, if_neg z3, if_neg z4, if_neg z5, if_neg z6, if_neg z7, if_neg z8, if_neg z9, if_neg z10, if_neg z11, if_neg y1, if_neg y2, if_neg y3, if_neg y4, if_neg y5, if_neg y6, if_neg y7, hs, Bool.false_eq_true, if_false])⟩, hxi, hS.ed, hst.symm, by k_mem, by k_mem, by k_mem, by k_mem, hnI, (fun p hp => by k_mem), hne, hS.off⟩ (by k_mem) (by k_mem) (by k_mem) (by assumption) (free_close fo hat (by assumption) (by assumption)) hin2 hdl
end
end
section
open PySem PySem.W PyProof.Rows PySem.Calls PySem.Spec
set_option maxRecDepth 100000
set_option maxHeartbeats 0
theorem lines_C12t4a_1 : True := by
  k_with_none
  k_with "eval Constant int" => (refine flat_int ?_)
  k_with "eval Constant str" => (refine flat_str ?_)
  k_with "call builtin:issubclass" => (k_here; k_dflt (refine' issub_call ?kqk1 ?_; (case kqk1 => exact News.get (by k_asm) (by k_mem)); k_whole); intro tk)
  k_with "callWith" => (k_here; (with_reducible show wpAny _ _ (callWith _ (Value.builtin _) (_ :: _) _ _) _ _ _); refine callWith_method1 ?_)
  trivial
section
variable {w : World} {mean : ExcName → Option Value} {mg mb : Str → Option Value} {dp un : Nat} {gd : Option (List Code)} {cn : Str} {cs : Scope} {a : Addr} {ccd : Value} {cl : List (Str × Addr)} {outer : List Env} {A₀ : Around} {base h₀ : Heap} {L : Addr} {m : Str → Option Value} {news : List (Addr × Obj)} {s : Shared} {Q E : Value → Shared → Prop}
theorem lines_C12t4a_2 : True := by
  k_with "exec Try" => (k_here; (refine hold_it ?_))
  k_with "call ref" => (k_here; (with_reducible show wpAny _ _ (call (Value.ref 201) _) _ _ _); k_dflt (refine' join_spec ?kqh1 ?kqh2 ?kqh3 ?kqk1 ?kqk2 ?kqk3 ?kqk4 ?kqk5 ?kqkK ?kqkd ?kqku ?_; (case kqh1 => omega); (case kqh2 => omega); (case kqh3 => omega); (case kqk1 => k_asm); (case kqk2 => k_asm); (case kqk3 => k_asm); (case kqk4 => k_asm); (case kqk5 => k_asm); (case kqkK => first | exact rfl | assumption); (case kqkd => ktr_room); (case kqku => ktr_units); k_whole); intro t' h' tk' F' N'; (try k_sweep))
  k_with "call ref" => (k_here; (with_reducible show wpAny _ _ (call (Value.ref 215) _) _ _ _); k_dflt (refine' norm_as ?kqh1 ?kqk1 ?kqk2 ?kqk3 ?kqk4 ?kqk5 ?kqkK ?kqkd ?kqku ?_; (case kqh1 => assumption); (case kqk1 => k_asm); (case kqk2 => k_asm); (case kqk3 => k_asm); (case kqk4 => k_asm); (case kqk5 => k_asm); (case kqkK => first | exact rfl | assumption); (case kqkd => ktr_room); (case kqku => ktr_units); k_whole); intro t' h' tk' F' N'; (try k_sweep))
  k_with "call ref" => (k_here; (with_reducible show wpAny _ _ (call (Value.ref 229) _) _ _ _); k_dflt (refine' answer_spec ?kqh1 ?kqh2 ?kqh3 ?kqk1 ?kqk2 ?kqk3 ?kqk4 ?kqk5 ?kqkK ?kqkd ?kqku ?_; (case kqh1 => omega); (case kqh2 => omega); (case kqh3 => omega); (case kqk1 => k_asm); (case kqk2 => k_asm); (case kqk3 => k_asm); (case kqk4 => k_asm); (case kqk5 => k_asm); (case kqkK => first | exact rfl | assumption); (case kqkd => ktr_room); (case kqku => ktr_units); k_whole); intro t' h' tk' F' N'; (try k_sweep))
  k_with "call ref" => (k_here; (with_reducible show wpAny _ _ (call (Value.ref 65) _) _ _ _); k_dflt (refine' p229ok_at ?kqho ?kqh1 ?kqh2 ?kqk1 ?kqk2 ?kqk3 ?kqk4 ?kqk5 ?kqkK ?kqkd ?kqku ?kqkm ?_; (case kqho => assumption); (case kqh1 => assumption); (case kqh2 => assumption); (case kqk1 => k_asm); (case kqk2 => k_asm); (case kqk3 => k_asm); (case kqk4 => k_asm); (case kqk5 => k_asm); (case kqkK => first | exact rfl | assumption); (case kqkd => ktr_room); (case kqku => ktr_units); (case kqkm => k_mem); k_whole); intro r' t' h' tk' D' F' N'; (replace D' := allNeA_of D'); (simp only [AllNeA, and_true] at D'); (repeat (obtain ⟨_, D'⟩ := D')); (try k_sweep))
  k_with "call ref" => (k_here; (with_reducible show wpAny _ _ (call (Value.ref 79) _) _ _ _); k_dflt (refine' push_K ?kqh1 ?kqh2 ?kqh3 ?kqk1 ?kqk2 ?kqk3 ?kqk4 ?kqkU ?kqk5 ?kqkK ?kqkd ?kqku ?_; (case kqk1 => k_asm); (case kqk2 => k_asm); (case kqk3 => k_asm); (case kqk4 => k_asm); (case kqkU => k_updF); (case kqh2 => assumption); (case kqh1 => omega); (case kqh3 => assumption); (case kqk5 => k_asm); (case kqkK => first | exact rfl | assumption); (case kqkd => ktr_room); (case kqku => ktr_units); k_whole); intro vs' n' ns' h' tk' I' P' H' F' N'; (try k_sweep))
  k_with "call ref" => (k_here; (with_reducible show wpAny _ _ (call (Value.ref 86) _) _ _ _); k_dflt (refine' pop_R ?kqh1 ?kqh2 ?kqh3 ?kqhR ?kqk1 ?kqk2 ?kqk3 ?kqk4 ?kqkU ?kqk5 ?kqkK ?kqkd ?kqku ?_; (case kqk1 => k_asm); (case kqk2 => k_asm); (case kqk3 => k_asm); (case kqk4 => k_asm); (case kqkU => k_updF); (case kqh2 => assumption); (case kqh1 => omega); (case kqh3 => assumption); (case kqk5 => k_asm); (case kqkK => first | exact rfl | assumption); (case kqkd => ktr_room); (case kqku => ktr_units); (case kqhR => assumption); k_whole); intro vs' n' ns' r' t' h' tk' I' P' H' M' R1' R2' G' F' N'; (try k_sweep))
  k_with "call ref" => (k_here; (with_reducible show wpAny _ _ (call (Value.ref 93) _) _ _ _); k_dflt (refine' pushpop_R ?kqh1 ?kqh2 ?kqh3 ?kqhR ?kqk1 ?kqk2 ?kqk3 ?kqk4 ?kqkU ?kqk5 ?kqkK ?kqkd ?kqku ?_; (case kqk1 => k_asm); (case kqk2 => k_asm); (case kqk3 => k_asm); (case kqk4 => k_asm); (case kqkU => k_updF); (case kqh2 => assumption); (case kqh1 => omega); (case kqh3 => assumption); (case kqk5 => k_asm); (case kqkK => first | exact rfl | assumption); (case kqkd => ktr_room); (case kqku => ktr_units); (case kqhR => assumption); k_whole); intro vs' n' ns' r' t' h' tk' I' P' H' M' R1' R2' F' N'; (try k_sweep))
  k_with "binaryOp Mod int int" => (k_here; k_dflt (refine' s_mod ?kqf ?kqb ?_; (case kqf => assumption); (case kqb => omega); k_whole); intro t' k')
  k_with "binaryOp FloorDiv int int" => (k_here; k_dflt (refine' s_div ?kqf ?kqb ?kqc ?_; (case kqf => assumption); (case kqb => omega); (case kqc => omega); k_whole); intro t' k')
  k_with "subscriptTail Name BinOp ref int" => (k_here; k_dflt (refine' l_itemAs ?kqh ?kqn ?kqm ?_ ?kqk6; (case kqn => k_asm); (case kqm => k_mem); (case kqh => assumption); (case kqk6 => with_unfolding_all rfl); k_whole))
  k_with "subscriptTail Constant" => (k_here; k_dflt (refine' s_item ?kqz0 ?kqz1 ?kqz2 ?kqz ?_ ?kqy1 ?kqy2; (case kqz => assumption); (case kqz0 => omega); (case kqz1 => omega); (case kqz2 => omega); (case kqy1 => with_unfolding_all rfl); (case kqy2 => (intro _; with_unfolding_all rfl)); k_whole); intro t' k')
  k_with "subscriptTail Call Constant ref int" => (k_here; k_dflt (refine' l_tup0 ?kqn ?kqm ?_ ?kqk6; (case kqn => k_asm); (case kqm => k_mem); (case kqk6 => with_unfolding_all rfl); k_whole))
  k_with "compareOp NotEq ref ref" => (k_here; k_dflt (refine' l_neNil ?kqn ?kqm ?kqm2 ?kqhh ?kqht ?kqho ?kqhu ?kqhb ?_; (case kqn => k_asm); (case kqm => k_mem); (case kqm2 => k_mem); (case kqhh => assumption); (case kqht => (intro p hp; k_mem)); (case kqho => assumption); (case kqhb => assumption); (case kqhu => ktr_units); k_whole))
  k_with "compareOp NotEq ref ref" => (k_here; k_dflt (refine' l_neInts ?kqn ?kqm ?kqm2 ?kqhI ?kqhu ?kqhb ?_; (case kqn => k_asm); (case kqm => k_mem); (case kqm2 => k_mem); (case kqhI => assumption); (case kqhb => assumption); (case kqhu => ktr_units); k_whole))
  k_with "call builtin:len" => (k_here; k_dflt (refine' l_len ?kqn ?kqm ?kqz ?_; (case kqn => k_asm); (case kqm => k_mem); (case kqz => omega); k_whole); intro t' k')
  k_with "call builtin:list.append" => (k_here; k_dflt (refine' l_append ?kqk1 ?kqk2 ?kqk3 ?kqz ?_; (case kqk1 => k_asm); (case kqk2 => k_asm); (case kqk3 => k_upd); (case kqz => first | (simp only [List.length_append, List.length_cons, List.length_nil]; omega) | omega); k_whole); intro h' F' N'; (try k_sweep))
  k_with "call builtin:list.pop" => (k_here; k_dflt (refine' l_popAt ?kqk1 ?kqk2 ?kqe ?kqk3 ?kqz ?_; (case kqk1 => k_asm); (case kqk2 => k_asm); (case kqk3 => k_upd); (case kqe => assumption); (case kqz => omega); k_whole); intro h' F' N'; (try k_sweep))
  k_with "compareOp Eq int int" => (k_here; refine' s_eqI ?kqf ?_; (case kqf => with_reducible assumption); k_whole)
  k_with "compareOp Lt int int" => (k_here; refine' s_ltI ?kqf ?_; (case kqf => with_reducible assumption); k_whole)
  k_with "compareOp NotEq int int" => (k_here; refine' s_neI ?kqf ?_; (case kqf => with_reducible assumption); k_whole)
  k_with "compareOp Gt int int" => (k_here; refine' s_gtI ?kqf ?_; (case kqf => with_reducible assumption); k_whole)
  trivial
theorem talk_t4a {g₀ g h : Heap} {L₂ lq lh ll lw lf lnum It : Addr} {oI : Obj} {QF : Flow → Shared → Prop} {ns qs : List Int} {mz m₁ : Str → Option Value} {i j k3 c : Nat} {x v κ fr : Int} {wd fd : Str} {t u1 u2 u3 u4 tw tf tfr tpl : Tok} {vH vQ vL vw vf vsN : List Value} {nH nQ nL nw nf n tk : Nat} {tl : List (Addr × Obj)} {d : DS}
   (XB : (hd.heap_39 w.params).In base) (TB : Top hd.view_39 (looseW hd.view_39 []) mean mg mb base) (B : Below (ktrTop dp un gd cn cs L a ccd [] []) base [envOf cn cs L a ccd] g) (X : (hd.heap_39 w.params).In g) (T : Top hd.view_39 (looseW hd.view_39 []) mean mg mb g) (D : KtsDicts ([envOf cn cs L a ccd].filterMap (·.frame)) g) (K : KtsTurn ([envOf cn cs L a ccd].filterMap (·.frame)) g₀ g) (hk : cs.kind = .function) (hdp : dp + 6 < recursionLimit) (hun : un + 100 < cLine)
   (hxi : ns[i]? = some x) (hS : TalkS lq lh ll lw lf ns mz i m₁ qs fr tfr tpl vH vQ vL tl d) (hne : ∀ p ∈ tl, p.1 ≠ It) (hnI : ∀ p ∈ [ll, lh, lq, lw, lf, lnum], p ≠ It)
   (lo : (NeA lw ll ∧ NeA lf ll ∧ NeA lnum ll ∧ NeA lw lh ∧ NeA lf lh ∧ NeA lnum lh ∧ NeA lw lq ∧ NeA lf lq ∧ NeA lnum lq) ∧ NeA lh ll ∧ NeA lq ll ∧ NeA lq lh) (FF : TalkF i x v κ j k3 c wd fd tw tf qs vH vQ vL vw vf d) (hc : κ = 4) (hd : d.held = [])
   (F1 : Fr g L₂ h (fun y => if y = Str.ofString "name" then some (.str (PP (filesGo j d.names)) u4) else if y = Str.ofString "mark" then some (.str ⟨#[c]⟩ u3) else if y = Str.ofString "value" then some (.int v u2) else if y = Str.ofString "kind" then some (.int κ u1) else if y = Str.ofString "x" then some (.int x t) else talkFr mz m₁ lq lh ll lw lf fr tfr (PP d.names) tpl y))
   (N1 : News g L₂ h ((ll, listOf vL.toArray nL) :: (lh, listOf vH.toArray nH) :: (lq, listOf vQ.toArray nQ) :: (lw, listOf vw.toArray nw) :: (lf, listOf vf.toArray nf) :: (lnum, listOf vsN.toArray n) :: (It, oI) :: tl)) :
   wpAny (model Challenge.rw_pd0171_01.row.prog w) ((ktrTop dp un gd cn cs L a ccd [] []).deeper (envOf (Str.ofString "_law_talk") (fnScope w.params 236) L₂ 236 (.ref 235))) (execs (talkLast w.params) (envOf (Str.ofString "_law_talk") (fnScope w.params 236) L₂ 236 (.ref 235))) (GEnd (TalkG w mean mg mb (ktrTop dp un gd cn cs L a ccd [] []) base g₀ [envOf cn cs L a ccd]) L₂ lnum It oI (listOf vsN.toArray n) (TalkJ ⟨lq, lh, ll, lw, lf, lnum, vw, vf, vsN, nw, nf, n⟩ ns mz (i + 1)) s QF) E { s with heap := h, toks := tk } := by
  revert X
  k_fill
  intro X
  refine noE ?_
  obtain ⟨nI1, nI2, nI3, nI4, nI5, nI6⟩ := nI_A hnI
  obtain ⟨⟨lo1, lo2, lo3, lo4, lo5, lo6, lo7, lo8, lo9⟩, lo10, lo11, lo12⟩ := lo
  have hoff := hS.off
  have hin := hS.hin
  have hdl := hS.dl
  have hq := hS.hq
  have fo := hS.fo
  have hpo := fo.hp
  obtain ⟨hok, hk6, hkk, hv, hv2, hj, hj5, hj2, hm2, hm3, hm4, hmk, hW, hF, lH, lL, lQ, b2, b3, b4, hho, lp, lp0, lw1, lf1, nF, nFl, hOk0⟩ := FF
  have hOk : OkFor c (PP (filesGo j d.names)) := ⟨hOk0⟩
  clear hOk0
  (with_unfolding_all conv in (talkLast _) => whnf)
  (with_unfolding_all conv in (occs := *) (fnScope _ _) => all_goals whnf)
  subst hc
  have he : d.held.isEmpty = true := by rw [hd]; rfl
  clear hOk
  k_steps
  exact talk_fin0 (c := ⟨lq, lh, ll, lw, lf, lnum, vw, vf, vsN, nw, nf, n⟩) ⟨by assumption, by assumption, by assumption, by assumption, by assumption⟩ ⟨by k_asm, by k_asm, ⟨List.forall_mem_cons.mpr ⟨by with_unfolding_all rfl, List.forall_mem_cons.mpr ⟨by with_unfolding_all rfl, List.forall_mem_cons.mpr ⟨by with_unfolding_all rfl, List.forall_mem_cons.mpr ⟨by with_unfolding_all rfl, List.forall_mem_cons.mpr ⟨by with_unfolding_all rfl, List.forall_mem_cons.mpr ⟨by with_unfolding_all rfl, List.forall_mem_cons.mpr ⟨by with_unfolding_all rfl, List.forall_mem_nil _⟩⟩⟩⟩⟩⟩⟩, fun z hz hs => by (obtain ⟨z1, z2, z3, z4, z5, z6, z7, z8, z9, z10, z11⟩ := talkZ hs; obtain ⟨y1, y2, y3, y4, y5, y6, y7⟩ := talkY hz; simp only [kstB, tryPs, talkFr, talkPs, if_neg z1, if_neg z2, if_neg z3, if_neg z4, if_neg z5, if_neg z6, if_neg z7, if_neg z8, if_neg z9, if_neg z10, if_neg z11, if_neg y1, if_neg y2, if_neg y3, if_neg y4, if_neg y5, if_neg y6, if_neg y7, hs, Bool.false_eq_true, if_false])⟩, hxi, hS.ed, (step_idle (.inr hkk) hd).symm, by k_mem, by k_mem, by k_mem, by k_mem, hnI, (fun p hp => by k_mem), hne, hS.off⟩ (by k_mem) (by k_mem) (by k_mem) hq fo hin hdl
end
end
section
open PySem PySem.W PyProof.Rows PySem.Calls PySem.Spec
set_option maxRecDepth 100000
set_option maxHeartbeats 0
theorem lines_C12t4b_1 : True := by
  k_with_none
  k_with "eval Constant int" => (refine flat_int ?_)
  k_with "eval Constant str" => (refine flat_str ?_)
  k_with "call builtin:issubclass" => (k_here; k_dflt (refine' issub_call ?kqk1 ?_; (case kqk1 => exact News.get (by k_asm) (by k_mem)); k_whole); intro tk)
  k_with "callWith" => (k_here; (with_reducible show wpAny _ _ (callWith _ (Value.builtin _) (_ :: _) _ _) _ _ _); refine callWith_method1 ?_)
  trivial
section
variable {w : World} {mean : ExcName → Option Value} {mg mb : Str → Option Value} {dp un : Nat} {gd : Option (List Code)} {cn : Str} {cs : Scope} {a : Addr} {ccd : Value} {cl : List (Str × Addr)} {outer : List Env} {A₀ : Around} {base h₀ : Heap} {L : Addr} {m : Str → Option Value} {news : List (Addr × Obj)} {s : Shared} {Q E : Value → Shared → Prop}
theorem lines_C12t4b_2 : True := by
  k_with "exec Try" => (k_here; (refine hold_it ?_))
  k_with "call ref" => (k_here; (with_reducible show wpAny _ _ (call (Value.ref 201) _) _ _ _); k_dflt (refine' join_spec ?kqh1 ?kqh2 ?kqh3 ?kqk1 ?kqk2 ?kqk3 ?kqk4 ?kqk5 ?kqkK ?kqkd ?kqku ?_; (case kqh1 => omega); (case kqh2 => omega); (case kqh3 => omega); (case kqk1 => k_asm); (case kqk2 => k_asm); (case kqk3 => k_asm); (case kqk4 => k_asm); (case kqk5 => k_asm); (case kqkK => first | exact rfl | assumption); (case kqkd => ktr_room); (case kqku => ktr_units); k_whole); intro t' h' tk' F' N'; (try k_sweep))
  k_with "call ref" => (k_here; (with_reducible show wpAny _ _ (call (Value.ref 215) _) _ _ _); k_dflt (refine' norm_as ?kqh1 ?kqk1 ?kqk2 ?kqk3 ?kqk4 ?kqk5 ?kqkK ?kqkd ?kqku ?_; (case kqh1 => assumption); (case kqk1 => k_asm); (case kqk2 => k_asm); (case kqk3 => k_asm); (case kqk4 => k_asm); (case kqk5 => k_asm); (case kqkK => first | exact rfl | assumption); (case kqkd => ktr_room); (case kqku => ktr_units); k_whole); intro t' h' tk' F' N'; (try k_sweep))
  k_with "call ref" => (k_here; (with_reducible show wpAny _ _ (call (Value.ref 229) _) _ _ _); k_dflt (refine' answer_spec ?kqh1 ?kqh2 ?kqh3 ?kqk1 ?kqk2 ?kqk3 ?kqk4 ?kqk5 ?kqkK ?kqkd ?kqku ?_; (case kqh1 => omega); (case kqh2 => omega); (case kqh3 => omega); (case kqk1 => k_asm); (case kqk2 => k_asm); (case kqk3 => k_asm); (case kqk4 => k_asm); (case kqk5 => k_asm); (case kqkK => first | exact rfl | assumption); (case kqkd => ktr_room); (case kqku => ktr_units); k_whole); intro t' h' tk' F' N'; (try k_sweep))
  k_with "call ref" => (k_here; (with_reducible show wpAny _ _ (call (Value.ref 65) _) _ _ _); k_dflt (refine' p229ok_at ?kqho ?kqh1 ?kqh2 ?kqk1 ?kqk2 ?kqk3 ?kqk4 ?kqk5 ?kqkK ?kqkd ?kqku ?kqkm ?_; (case kqho => assumption); (case kqh1 => assumption); (case kqh2 => assumption); (case kqk1 => k_asm); (case kqk2 => k_asm); (case kqk3 => k_asm); (case kqk4 => k_asm); (case kqk5 => k_asm); (case kqkK => first | exact rfl | assumption); (case kqkd => ktr_room); (case kqku => ktr_units); (case kqkm => k_mem); k_whole); intro r' t' h' tk' D' F' N'; (replace D' := allNeA_of D'); (simp only [AllNeA, and_true] at D'); (repeat (obtain ⟨_, D'⟩ := D')); (try k_sweep))
  k_with "call ref" => (k_here; (with_reducible show wpAny _ _ (call (Value.ref 79) _) _ _ _); k_dflt (refine' push_K ?kqh1 ?kqh2 ?kqh3 ?kqk1 ?kqk2 ?kqk3 ?kqk4 ?kqkU ?kqk5 ?kqkK ?kqkd ?kqku ?_; (case kqk1 => k_asm); (case kqk2 => k_asm); (case kqk3 => k_asm); (case kqk4 => k_asm); (case kqkU => k_updF); (case kqh2 => assumption); (case kqh1 => omega); (case kqh3 => assumption); (case kqk5 => k_asm); (case kqkK => first | exact rfl | assumption); (case kqkd => ktr_room); (case kqku => ktr_units); k_whole); intro vs' n' ns' h' tk' I' P' H' F' N'; (try k_sweep))
  k_with "call ref" => (k_here; (with_reducible show wpAny _ _ (call (Value.ref 86) _) _ _ _); k_dflt (refine' pop_R ?kqh1 ?kqh2 ?kqh3 ?kqhR ?kqk1 ?kqk2 ?kqk3 ?kqk4 ?kqkU ?kqk5 ?kqkK ?kqkd ?kqku ?_; (case kqk1 => k_asm); (case kqk2 => k_asm); (case kqk3 => k_asm); (case kqk4 => k_asm); (case kqkU => k_updF); (case kqh2 => assumption); (case kqh1 => omega); (case kqh3 => assumption); (case kqk5 => k_asm); (case kqkK => first | exact rfl | assumption); (case kqkd => ktr_room); (case kqku => ktr_units); (case kqhR => assumption); k_whole); intro vs' n' ns' r' t' h' tk' I' P' H' M' R1' R2' G' F' N'; (try k_sweep))
  k_with "call ref" => (k_here; (with_reducible show wpAny _ _ (call (Value.ref 93) _) _ _ _); k_dflt (refine' pushpop_R ?kqh1 ?kqh2 ?kqh3 ?kqhR ?kqk1 ?kqk2 ?kqk3 ?kqk4 ?kqkU ?kqk5 ?kqkK ?kqkd ?kqku ?_; (case kqk1 => k_asm); (case kqk2 => k_asm); (case kqk3 => k_asm); (case kqk4 => k_asm); (case kqkU => k_updF); (case kqh2 => assumption); (case kqh1 => omega); (case kqh3 => assumption); (case kqk5 => k_asm); (case kqkK => first | exact rfl | assumption); (case kqkd => ktr_room); (case kqku => ktr_units); (case kqhR => assumption); k_whole); intro vs' n' ns' r' t' h' tk' I' P' H' M' R1' R2' F' N'; (try k_sweep))
  k_with "binaryOp Mod int int" => (k_here; k_dflt (refine' s_mod ?kqf ?kqb ?_; (case kqf => assumption); (case kqb => omega); k_whole); intro t' k')
  k_with "binaryOp FloorDiv int int" => (k_here; k_dflt (refine' s_div ?kqf ?kqb ?kqc ?_; (case kqf => assumption); (case kqb => omega); (case kqc => omega); k_whole); intro t' k')
  k_with "subscriptTail Name BinOp ref int" => (k_here; k_dflt (refine' l_itemAs ?kqh ?kqn ?kqm ?_ ?kqk6; (case kqn => k_asm); (case kqm => k_mem); (case kqh => assumption); (case kqk6 => with_unfolding_all rfl); k_whole))
  k_with "subscriptTail Constant" => (k_here; k_dflt (refine' s_item ?kqz0 ?kqz1 ?kqz2 ?kqz ?_ ?kqy1 ?kqy2; (case kqz => assumption); (case kqz0 => omega); (case kqz1 => omega); (case kqz2 => omega); (case kqy1 => with_unfolding_all rfl); (case kqy2 => (intro _; with_unfolding_all rfl)); k_whole); intro t' k')
  k_with "subscriptTail Call Constant ref int" => (k_here; k_dflt (refine' l_tup0 ?kqn ?kqm ?_ ?kqk6; (case kqn => k_asm); (case kqm => k_mem); (case kqk6 => with_unfolding_all rfl); k_whole))
  k_with "compareOp NotEq ref ref" => (k_here; k_dflt (refine' l_neNil ?kqn ?kqm ?kqm2 ?kqhh ?kqht ?kqho ?kqhu ?kqhb ?_; (case kqn => k_asm); (case kqm => k_mem); (case kqm2 => k_mem); (case kqhh => assumption); (case kqht => (intro p hp; k_mem)); (case kqho => assumption); (case kqhb => assumption); (case kqhu => ktr_units); k_whole))
  k_with "compareOp NotEq ref ref" => (k_here; k_dflt (refine' l_neInts ?kqn ?kqm ?kqm2 ?kqhI ?kqhu ?kqhb ?_; (case kqn => k_asm); (case kqm => k_mem); (case kqm2 => k_mem); (case kqhI => assumption); (case kqhb => assumption); (case kqhu => ktr_units); k_whole))
  k_with "call builtin:len" => (k_here; k_dflt (refine' l_len ?kqn ?kqm ?kqz ?_; (case kqn => k_asm); (case kqm => k_mem); (case kqz => omega); k_whole); intro t' k')
  k_with "call builtin:list.append" => (k_here; k_dflt (refine' l_append ?kqk1 ?kqk2 ?kqk3 ?kqz ?_; (case kqk1 => k_asm); (case kqk2 => k_asm); (case kqk3 => k_upd); (case kqz => first | (simp only [List.length_append, List.length_cons, List.length_nil]; omega) | omega); k_whole); intro h' F' N'; (try k_sweep))
  k_with "call builtin:list.pop" => (k_here; k_dflt (refine' l_popAt ?kqk1 ?kqk2 ?kqe ?kqk3 ?kqz ?_; (case kqk1 => k_asm); (case kqk2 => k_asm); (case kqk3 => k_upd); (case kqe => assumption); (case kqz => omega); k_whole); intro h' F' N'; (try k_sweep))
  k_with "compareOp Eq int int" => (k_here; refine' s_eqI ?kqf ?_; (case kqf => with_reducible assumption); k_whole)
  k_with "compareOp Lt int int" => (k_here; refine' s_ltI ?kqf ?_; (case kqf => with_reducible assumption); k_whole)
  k_with "compareOp NotEq int int" => (k_here; refine' s_neI ?kqf ?_; (case kqf => with_reducible assumption); k_whole)
  k_with "compareOp Gt int int" => (k_here; refine' s_gtI ?kqf ?_; (case kqf => with_reducible assumption); k_whole)
  k_with "call builtin:list.pop" => (k_here; k_dflt (refine' l_popAs ?kqk1 ?kqk2 ?kqe ?kqe2 ?kqk3 ?kqz ?_; (case kqk1 => k_asm); (case kqk2 => k_asm); (case kqe2 => assumption); (case kqk3 => k_upd); (case kqe => assumption); (case kqz => omega); k_whole); intro h' F' N'; (try k_sweep))
  trivial
theorem talk_t4b {g₀ g h : Heap} {L₂ lq lh ll lw lf lnum It : Addr} {oI : Obj} {QF : Flow → Shared → Prop} {ns qs : List Int} {mz m₁ : Str → Option Value} {i j k3 c : Nat} {x v κ fr : Int} {wd fd : Str} {t u1 u2 u3 u4 tw tf tfr tpl : Tok} {vH vQ vL vw vf vsN : List Value} {nH nQ nL nw nf n tk : Nat} {tl : List (Addr × Obj)} {d : DS}
   (XB : (hd.heap_39 w.params).In base) (TB : Top hd.view_39 (looseW hd.view_39 []) mean mg mb base) (B : Below (ktrTop dp un gd cn cs L a ccd [] []) base [envOf cn cs L a ccd] g) (X : (hd.heap_39 w.params).In g) (T : Top hd.view_39 (looseW hd.view_39 []) mean mg mb g) (D : KtsDicts ([envOf cn cs L a ccd].filterMap (·.frame)) g) (K : KtsTurn ([envOf cn cs L a ccd].filterMap (·.frame)) g₀ g) (hk : cs.kind = .function) (hdp : dp + 6 < recursionLimit) (hun : un + 100 < cLine)
   (hxi : ns[i]? = some x) (hS : TalkS lq lh ll lw lf ns mz i m₁ qs fr tfr tpl vH vQ vL tl d) (hne : ∀ p ∈ tl, p.1 ≠ It) (hnI : ∀ p ∈ [ll, lh, lq, lw, lf, lnum], p ≠ It)
   (lo : (NeA lw ll ∧ NeA lf ll ∧ NeA lnum ll ∧ NeA lw lh ∧ NeA lf lh ∧ NeA lnum lh ∧ NeA lw lq ∧ NeA lf lq ∧ NeA lnum lq) ∧ NeA lh ll ∧ NeA lq ll ∧ NeA lq lh) (FF : TalkF i x v κ j k3 c wd fd tw tf qs vH vQ vL vw vf d) (hc : κ = 4) (hd : ¬ d.held = [])
   (F1 : Fr g L₂ h (fun y => if y = Str.ofString "name" then some (.str (PP (filesGo j d.names)) u4) else if y = Str.ofString "mark" then some (.str ⟨#[c]⟩ u3) else if y = Str.ofString "value" then some (.int v u2) else if y = Str.ofString "kind" then some (.int κ u1) else if y = Str.ofString "x" then some (.int x t) else talkFr mz m₁ lq lh ll lw lf fr tfr (PP d.names) tpl y))
   (N1 : News g L₂ h ((ll, listOf vL.toArray nL) :: (lh, listOf vH.toArray nH) :: (lq, listOf vQ.toArray nQ) :: (lw, listOf vw.toArray nw) :: (lf, listOf vf.toArray nf) :: (lnum, listOf vsN.toArray n) :: (It, oI) :: tl)) :
   wpAny (model Challenge.rw_pd0171_01.row.prog w) ((ktrTop dp un gd cn cs L a ccd [] []).deeper (envOf (Str.ofString "_law_talk") (fnScope w.params 236) L₂ 236 (.ref 235))) (execs (talkLast w.params) (envOf (Str.ofString "_law_talk") (fnScope w.params 236) L₂ 236 (.ref 235))) (GEnd (TalkG w mean mg mb (ktrTop dp un gd cn cs L a ccd [] []) base g₀ [envOf cn cs L a ccd]) L₂ lnum It oI (listOf vsN.toArray n) (TalkJ ⟨lq, lh, ll, lw, lf, lnum, vw, vf, vsN, nw, nf, n⟩ ns mz (i + 1)) s QF) E { s with heap := h, toks := tk } := by
  revert X
  k_fill
  intro X
  refine noE ?_
  obtain ⟨nI1, nI2, nI3, nI4, nI5, nI6⟩ := nI_A hnI
  obtain ⟨⟨lo1, lo2, lo3, lo4, lo5, lo6, lo7, lo8, lo9⟩, lo10, lo11, lo12⟩ := lo
  have hoff := hS.off
  have hin := hS.hin
  have hdl := hS.dl
  have hq := hS.hq
  have fo := hS.fo
  have hpo := fo.hp
  obtain ⟨hok, hk6, hkk, hv, hv2, hj, hj5, hj2, hm2, hm3, hm4, hmk, hW, hF, lH, lL, lQ, b2, b3, b4, hho, lp, lp0, lw1, lf1, nF, nFl, hOk0⟩ := FF
  have hOk : OkFor c (PP (filesGo j d.names)) := ⟨hOk0⟩
  clear hOk0
  (with_unfolding_all conv in (talkLast _) => whnf)
  (with_unfolding_all conv in (occs := *) (fnScope _ _) => all_goals whnf)
  subst hc
  have he : d.held.isEmpty = false := by simpa using hd
  have hlp : 0 < d.held.length := List.length_pos_iff.mpr hd
  obtain ⟨k, hkd, hk4⟩ := nat_of (x := v) (k := (d.held.length : Int)) (by omega)
  have hkp : v.fmod (vH.length : Int) = (k : Int) := by rw [lH]; exact (fmod_of (by omega)).trans hkd
  have hin2 := hin.erase k
  obtain ⟨pk, nk, ak, tk1, tk2, pV, qV, rfl, hmk2, hpl, hat, heq⟩ := HeldIn.at hin k (by omega)
  have hpl' : (k : Int) = (pV.length : Int) := by omega
  have hql : pV.length + qV.length ≤ 4 := by (have l9 := lH; simp only [List.length_append, List.length_cons] at l9; omega)
  rw [heq] at hin2
  obtain ⟨vH2, hvv⟩ : ∃ z, pV ++ qV = z := ⟨_, rfl⟩
  have l2 : vH2.length ≤ 4 := by rw [← hvv, List.length_append]; exact hql
  rw [hvv] at hin2
  have hst := step_swap hkk hd (hv2 ▸ hkd) (hv2 ▸ hj)
  have hrg := fo.range2 hat
  k_steps
  obtain ⟨fo2, fL, _, _⟩ := free_swap (nm2 := PP (filesGo j d.names)) fo hat (by assumption) (by assumption) (by assumption)

  exact talk_finO (j := j) (c := ⟨lq, lh, ll, lw, lf, lnum, vw, vf, vsN, nw, nf, n⟩) ⟨by assumption, by assumption, by assumption, by assumption, by assumption⟩ ⟨by k_asm, by k_asm, ⟨List.forall_mem_cons.mpr ⟨by with_unfolding_all rfl, List.forall_mem_cons.mpr ⟨by with_unfolding_all rfl, List.forall_mem_cons.mpr ⟨by with_unfolding_all rfl, List.forall_mem_cons.mpr ⟨by with_unfolding_all rfl, List.forall_mem_cons.mpr ⟨by with_unfolding_all rfl, List.forall_mem_cons.mpr ⟨by with_unfolding_all rfl, List.forall_mem_cons.mpr ⟨by with_unfolding_all rfl, List.forall_mem_nil _⟩⟩⟩⟩⟩⟩⟩, fun z hz hs => by (obtain ⟨z1, z2, z3, z4, z5, z6, z7, z8, z9, z10, z11⟩ := talkZ hs; obtain ⟨y1, y2, y3, y4, y5, y6, y7⟩ := talkY hz; simp only [kstB, tryPs, talkFr, talkPs, if_neg z1, if_neg z2, if_neg z3, if_neg z4, if_neg z5, if_neg z6, if_neg z7, if_neg z8, if_neg z9, if_neg z10, if_neg z11, if_neg y1, if_neg y2, if_neg y3, if_neg y4, if_neg y5, if_neg y6, if_neg y7, hs, Bool.false_eq_true, if_false])⟩, hxi, hS.ed, hst.symm, by k_mem, by k_mem, by k_mem, by k_mem, hnI, (fun p hp => by k_mem), hne, hS.off⟩ fL (by k_mem) (by k_mem) (by k_mem) (by assumption) fo2 (by k_mem) (by k_mem) (by k_ne) (by k_ne) (ne3n (by k_ne) (by k_ne) (by k_ne)) (ne3n (by k_ne) (by k_ne) (by k_ne)) hin2 hdl
end
end
section
open PySem PySem.W PyProof.Rows PySem.Calls PySem.Spec
set_option maxRecDepth 100000
set_option maxHeartbeats 0
theorem lines_C12tf_1 : True := by
  k_with_none
  k_with "eval Constant int" => (refine flat_int ?_)
  k_with "eval Constant str" => (refine flat_str ?_)
  k_with "call builtin:issubclass" => (k_here; k_dflt (refine' issub_call ?kqk1 ?_; (case kqk1 => exact News.get (by k_asm) (by k_mem)); k_whole); intro tk)
  k_with "callWith" => (k_here; (with_reducible show wpAny _ _ (callWith _ (Value.builtin _) (_ :: _) _ _) _ _ _); refine callWith_method1 ?_)
  trivial
section
variable {w : World} {mean : ExcName → Option Value} {mg mb : Str → Option Value} {dp un : Nat} {gd : Option (List Code)} {cn : Str} {cs : Scope} {a : Addr} {ccd : Value} {cl : List (Str × Addr)} {outer : List Env} {A₀ : Around} {base h₀ : Heap} {L : Addr} {m : Str → Option Value} {news : List (Addr × Obj)} {s : Shared} {Q E : Value → Shared → Prop}
theorem lines_C12tf_2 : True := by
  k_with "exec Try" => (k_here; (refine hold_it ?_))
  k_with "call ref" => (k_here; (with_reducible show wpAny _ _ (call (Value.ref 201) _) _ _ _); k_dflt (refine' join_spec ?kqh1 ?kqh2 ?kqh3 ?kqk1 ?kqk2 ?kqk3 ?kqk4 ?kqk5 ?kqkK ?kqkd ?kqku ?_; (case kqh1 => omega); (case kqh2 => omega); (case kqh3 => omega); (case kqk1 => k_asm); (case kqk2 => k_asm); (case kqk3 => k_asm); (case kqk4 => k_asm); (case kqk5 => k_asm); (case kqkK => first | exact rfl | assumption); (case kqkd => ktr_room); (case kqku => ktr_units); k_whole); intro t' h' tk' F' N'; (try k_sweep))
  k_with "call ref" => (k_here; (with_reducible show wpAny _ _ (call (Value.ref 215) _) _ _ _); k_dflt (refine' norm_as ?kqh1 ?kqk1 ?kqk2 ?kqk3 ?kqk4 ?kqk5 ?kqkK ?kqkd ?kqku ?_; (case kqh1 => assumption); (case kqk1 => k_asm); (case kqk2 => k_asm); (case kqk3 => k_asm); (case kqk4 => k_asm); (case kqk5 => k_asm); (case kqkK => first | exact rfl | assumption); (case kqkd => ktr_room); (case kqku => ktr_units); k_whole); intro t' h' tk' F' N'; (try k_sweep))
  k_with "call ref" => (k_here; (with_reducible show wpAny _ _ (call (Value.ref 229) _) _ _ _); k_dflt (refine' answer_spec ?kqh1 ?kqh2 ?kqh3 ?kqk1 ?kqk2 ?kqk3 ?kqk4 ?kqk5 ?kqkK ?kqkd ?kqku ?_; (case kqh1 => omega); (case kqh2 => omega); (case kqh3 => omega); (case kqk1 => k_asm); (case kqk2 => k_asm); (case kqk3 => k_asm); (case kqk4 => k_asm); (case kqk5 => k_asm); (case kqkK => first | exact rfl | assumption); (case kqkd => ktr_room); (case kqku => ktr_units); k_whole); intro t' h' tk' F' N'; (try k_sweep))
  k_with "call ref" => (k_here; (with_reducible show wpAny _ _ (call (Value.ref 65) _) _ _ _); k_dflt (refine' p229ok_at ?kqho ?kqh1 ?kqh2 ?kqk1 ?kqk2 ?kqk3 ?kqk4 ?kqk5 ?kqkK ?kqkd ?kqku ?kqkm ?_; (case kqho => assumption); (case kqh1 => assumption); (case kqh2 => assumption); (case kqk1 => k_asm); (case kqk2 => k_asm); (case kqk3 => k_asm); (case kqk4 => k_asm); (case kqk5 => k_asm); (case kqkK => first | exact rfl | assumption); (case kqkd => ktr_room); (case kqku => ktr_units); (case kqkm => k_mem); k_whole); intro r' t' h' tk' D' F' N'; (replace D' := allNeA_of D'); (simp only [AllNeA, and_true] at D'); (repeat (obtain ⟨_, D'⟩ := D')); (try k_sweep))
  k_with "call ref" => (k_here; (with_reducible show wpAny _ _ (call (Value.ref 79) _) _ _ _); k_dflt (refine' push_K ?kqh1 ?kqh2 ?kqh3 ?kqk1 ?kqk2 ?kqk3 ?kqk4 ?kqkU ?kqk5 ?kqkK ?kqkd ?kqku ?_; (case kqk1 => k_asm); (case kqk2 => k_asm); (case kqk3 => k_asm); (case kqk4 => k_asm); (case kqkU => k_updF); (case kqh2 => assumption); (case kqh1 => omega); (case kqh3 => assumption); (case kqk5 => k_asm); (case kqkK => first | exact rfl | assumption); (case kqkd => ktr_room); (case kqku => ktr_units); k_whole); intro vs' n' ns' h' tk' I' P' H' F' N'; (try k_sweep))
  k_with "call ref" => (k_here; (with_reducible show wpAny _ _ (call (Value.ref 86) _) _ _ _); k_dflt (refine' pop_R ?kqh1 ?kqh2 ?kqh3 ?kqhR ?kqk1 ?kqk2 ?kqk3 ?kqk4 ?kqkU ?kqk5 ?kqkK ?kqkd ?kqku ?_; (case kqk1 => k_asm); (case kqk2 => k_asm); (case kqk3 => k_asm); (case kqk4 => k_asm); (case kqkU => k_updF); (case kqh2 => assumption); (case kqh1 => omega); (case kqh3 => assumption); (case kqk5 => k_asm); (case kqkK => first | exact rfl | assumption); (case kqkd => ktr_room); (case kqku => ktr_units); (case kqhR => assumption); k_whole); intro vs' n' ns' r' t' h' tk' I' P' H' M' R1' R2' G' F' N'; (try k_sweep))
  k_with "call ref" => (k_here; (with_reducible show wpAny _ _ (call (Value.ref 93) _) _ _ _); k_dflt (refine' pushpop_R ?kqh1 ?kqh2 ?kqh3 ?kqhR ?kqk1 ?kqk2 ?kqk3 ?kqk4 ?kqkU ?kqk5 ?kqkK ?kqkd ?kqku ?_; (case kqk1 => k_asm); (case kqk2 => k_asm); (case kqk3 => k_asm); (case kqk4 => k_asm); (case kqkU => k_updF); (case kqh2 => assumption); (case kqh1 => omega); (case kqh3 => assumption); (case kqk5 => k_asm); (case kqkK => first | exact rfl | assumption); (case kqkd => ktr_room); (case kqku => ktr_units); (case kqhR => assumption); k_whole); intro vs' n' ns' r' t' h' tk' I' P' H' M' R1' R2' F' N'; (try k_sweep))
  k_with "binaryOp Mod int int" => (k_here; k_dflt (refine' s_mod ?kqf ?kqb ?_; (case kqf => assumption); (case kqb => omega); k_whole); intro t' k')
  k_with "binaryOp FloorDiv int int" => (k_here; k_dflt (refine' s_div ?kqf ?kqb ?kqc ?_; (case kqf => assumption); (case kqb => omega); (case kqc => omega); k_whole); intro t' k')
  k_with "subscriptTail Name BinOp ref int" => (k_here; k_dflt (refine' l_itemAs ?kqh ?kqn ?kqm ?_ ?kqk6; (case kqn => k_asm); (case kqm => k_mem); (case kqh => assumption); (case kqk6 => with_unfolding_all rfl); k_whole))
  k_with "subscriptTail Constant" => (k_here; k_dflt (refine' s_item ?kqz0 ?kqz1 ?kqz2 ?kqz ?_ ?kqy1 ?kqy2; (case kqz => assumption); (case kqz0 => omega); (case kqz1 => omega); (case kqz2 => omega); (case kqy1 => with_unfolding_all rfl); (case kqy2 => (intro _; with_unfolding_all rfl)); k_whole); intro t' k')
  k_with "subscriptTail Call Constant ref int" => (k_here; k_dflt (refine' l_tup0 ?kqn ?kqm ?_ ?kqk6; (case kqn => k_asm); (case kqm => k_mem); (case kqk6 => with_unfolding_all rfl); k_whole))
  k_with "compareOp NotEq ref ref" => (k_here; k_dflt (refine' l_neNil ?kqn ?kqm ?kqm2 ?kqhh ?kqht ?kqho ?kqhu ?kqhb ?_; (case kqn => k_asm); (case kqm => k_mem); (case kqm2 => k_mem); (case kqhh => assumption); (case kqht => (intro p hp; k_mem)); (case kqho => assumption); (case kqhb => assumption); (case kqhu => ktr_units); k_whole))
  k_with "compareOp NotEq ref ref" => (k_here; k_dflt (refine' l_neInts ?kqn ?kqm ?kqm2 ?kqhI ?kqhu ?kqhb ?_; (case kqn => k_asm); (case kqm => k_mem); (case kqm2 => k_mem); (case kqhI => assumption); (case kqhb => assumption); (case kqhu => ktr_units); k_whole))
  k_with "call builtin:len" => (k_here; k_dflt (refine' l_len ?kqn ?kqm ?kqz ?_; (case kqn => k_asm); (case kqm => k_mem); (case kqz => omega); k_whole); intro t' k')
  k_with "call builtin:list.append" => (k_here; k_dflt (refine' l_append ?kqk1 ?kqk2 ?kqk3 ?kqz ?_; (case kqk1 => k_asm); (case kqk2 => k_asm); (case kqk3 => k_upd); (case kqz => first | (simp only [List.length_append, List.length_cons, List.length_nil]; omega) | omega); k_whole); intro h' F' N'; (try k_sweep))
  k_with "call builtin:list.pop" => (k_here; k_dflt (refine' l_popAt ?kqk1 ?kqk2 ?kqe ?kqk3 ?kqz ?_; (case kqk1 => k_asm); (case kqk2 => k_asm); (case kqk3 => k_upd); (case kqe => assumption); (case kqz => omega); k_whole); intro h' F' N'; (try k_sweep))
  k_with "compareOp Eq int int" => (k_here; refine' s_eqI ?kqf ?_; (case kqf => with_reducible assumption); k_whole)
  k_with "compareOp Lt int int" => (k_here; refine' s_ltI ?kqf ?_; (case kqf => with_reducible assumption); k_whole)
  k_with "compareOp NotEq int int" => (k_here; refine' s_neI ?kqf ?_; (case kqf => with_reducible assumption); k_whole)
  k_with "compareOp Gt int int" => (k_here; refine' s_gtI ?kqf ?_; (case kqf => with_reducible assumption); k_whole)
  trivial
theorem talk_tf {g₀ g h : Heap} {L₂ lq lh ll lw lf lnum It : Addr} {oI : Obj} {QF : Flow → Shared → Prop} {ns qs : List Int} {mz m₁ : Str → Option Value} {i j k3 c : Nat} {x v κ fr : Int} {wd fd : Str} {t u1 u2 u3 u4 tw tf tfr tpl : Tok} {vH vQ vL vw vf vsN : List Value} {nH nQ nL nw nf n tk : Nat} {tl : List (Addr × Obj)} {d : DS}
   (XB : (hd.heap_39 w.params).In base) (TB : Top hd.view_39 (looseW hd.view_39 []) mean mg mb base) (B : Below (ktrTop dp un gd cn cs L a ccd [] []) base [envOf cn cs L a ccd] g) (X : (hd.heap_39 w.params).In g) (T : Top hd.view_39 (looseW hd.view_39 []) mean mg mb g) (D : KtsDicts ([envOf cn cs L a ccd].filterMap (·.frame)) g) (K : KtsTurn ([envOf cn cs L a ccd].filterMap (·.frame)) g₀ g) (hk : cs.kind = .function) (hdp : dp + 6 < recursionLimit) (hun : un + 100 < cLine)
   (hxi : ns[i]? = some x) (hS : TalkS lq lh ll lw lf ns mz i m₁ qs fr tfr tpl vH vQ vL tl d) (hne : ∀ p ∈ tl, p.1 ≠ It) (hnI : ∀ p ∈ [ll, lh, lq, lw, lf, lnum], p ≠ It)
   (lo : (NeA lw ll ∧ NeA lf ll ∧ NeA lnum ll ∧ NeA lw lh ∧ NeA lf lh ∧ NeA lnum lh ∧ NeA lw lq ∧ NeA lf lq ∧ NeA lnum lq) ∧ NeA lh ll ∧ NeA lq ll ∧ NeA lq lh) (FF : TalkF i x v κ j k3 c wd fd tw tf qs vH vQ vL vw vf d) (hc : κ = 0 ∨ κ = 1 ∨ κ = 5) (hl4 : d.held.length = 4)
   (F1 : Fr g L₂ h (fun y => if y = Str.ofString "name" then some (.str (PP (filesGo j d.names)) u4) else if y = Str.ofString "mark" then some (.str ⟨#[c]⟩ u3) else if y = Str.ofString "value" then some (.int v u2) else if y = Str.ofString "kind" then some (.int κ u1) else if y = Str.ofString "x" then some (.int x t) else talkFr mz m₁ lq lh ll lw lf fr tfr (PP d.names) tpl y))
   (N1 : News g L₂ h ((ll, listOf vL.toArray nL) :: (lh, listOf vH.toArray nH) :: (lq, listOf vQ.toArray nQ) :: (lw, listOf vw.toArray nw) :: (lf, listOf vf.toArray nf) :: (lnum, listOf vsN.toArray n) :: (It, oI) :: tl)) :
   wpAny (model Challenge.rw_pd0171_01.row.prog w) ((ktrTop dp un gd cn cs L a ccd [] []).deeper (envOf (Str.ofString "_law_talk") (fnScope w.params 236) L₂ 236 (.ref 235))) (execs (talkLast w.params) (envOf (Str.ofString "_law_talk") (fnScope w.params 236) L₂ 236 (.ref 235))) (GEnd (TalkG w mean mg mb (ktrTop dp un gd cn cs L a ccd [] []) base g₀ [envOf cn cs L a ccd]) L₂ lnum It oI (listOf vsN.toArray n) (TalkJ ⟨lq, lh, ll, lw, lf, lnum, vw, vf, vsN, nw, nf, n⟩ ns mz (i + 1)) s QF) E { s with heap := h, toks := tk } := by
  revert X
  k_fill
  intro X
  refine noE ?_
  obtain ⟨nI1, nI2, nI3, nI4, nI5, nI6⟩ := nI_A hnI
  obtain ⟨⟨lo1, lo2, lo3, lo4, lo5, lo6, lo7, lo8, lo9⟩, lo10, lo11, lo12⟩ := lo
  have hoff := hS.off
  have hin := hS.hin
  have hdl := hS.dl
  have hq := hS.hq
  have fo := hS.fo
  have hpo := fo.hp
  obtain ⟨hok, hk6, hkk, hv, hv2, hj, hj5, hj2, hm2, hm3, hm4, hmk, hW, hF, lH, lL, lQ, b2, b3, b4, hho, lp, lp0, lw1, lf1, nF, nFl, hOk0⟩ := FF
  have hOk : OkFor c (PP (filesGo j d.names)) := ⟨hOk0⟩
  clear hOk0
  (with_unfolding_all conv in (talkLast _) => whnf)
  (with_unfolding_all conv in (occs := *) (fnScope _ _) => all_goals whnf)
  have q3 : (κ == 3) = false := eqI_f (by omega)
  have q2 : (κ == 2) = false := eqI_f (by omega)
  have q4 : (κ == 4) = false := eqI_f (by omega)
  have qm : decide ((vH.length : Int) < 4) = false := ltI_f (by omega)
  have hst := step_full (x := x) (by omega) hl4
  have hno : P229No (Str.ofString "421 no more (|||1024|)") := ⟨by decide +kernel, by decide +kernel⟩
  clear hc hOk
  k_steps
  unfold Hold
  refine try_no (qs := qs) hno ?a ?b XB TB (by assumption) (by assumption) (by assumption) (by assumption) (by assumption) hk hdp hun (Fr.ps (by k_asm) (List.forall_mem_cons.mpr ⟨by with_unfolding_all rfl, List.forall_mem_cons.mpr ⟨by with_unfolding_all rfl, List.forall_mem_cons.mpr ⟨by with_unfolding_all rfl, List.forall_mem_cons.mpr ⟨by with_unfolding_all rfl, List.forall_mem_cons.mpr ⟨by with_unfolding_all rfl, List.forall_mem_cons.mpr ⟨by with_unfolding_all rfl, List.forall_mem_nil _⟩⟩⟩⟩⟩⟩)) (by assumption) ⟨lo10.h, lo11.h, lo12.h⟩ ?off ?ret
  case a => omega
  case b => omega
  case off => exact off_7 ⟨lo1.h, lo2.h, lo3.h, lo4.h, lo5.h, lo6.h, lo7.h, lo8.h, lo9.h⟩ ⟨nI1.h, nI2.h, nI3.h, nI4.h, nI5.h, nI6.h⟩ hS.off
  case ret =>
    intro g' h' tk' t' G' F' N'
    (try dsimp only)
    k_steps
    exact talk_fin0 (c := ⟨lq, lh, ll, lw, lf, lnum, vw, vf, vsN, nw, nf, n⟩) G' ⟨by k_asm, by k_asm, ⟨List.forall_mem_cons.mpr ⟨by with_unfolding_all rfl, List.forall_mem_cons.mpr ⟨by with_unfolding_all rfl, List.forall_mem_cons.mpr ⟨by with_unfolding_all rfl, List.forall_mem_cons.mpr ⟨by with_unfolding_all rfl, List.forall_mem_cons.mpr ⟨by with_unfolding_all rfl, List.forall_mem_cons.mpr ⟨by with_unfolding_all rfl, List.forall_mem_cons.mpr ⟨by with_unfolding_all rfl, List.forall_mem_nil _⟩⟩⟩⟩⟩⟩⟩, fun z hz hs => by (obtain ⟨z1, z2, z3, z4, z5, z6, z7, z8, z9, z10, z11⟩ := talkZ hs; obtain ⟨y1, y2, y3, y4, y5, y6, y7⟩ := talkY hz; simp only [kstB, tryPs, talkFr, talkPs, if_neg z1, if_neg z2, if_neg z3, if_neg z4, if_neg z5, if_neg z6, if_neg z7, if_neg z8, if_neg z9, if_neg z10, if_neg z11, if_neg y1, if_neg y2, if_neg y3, if_neg y4, if_neg y5, if_neg y6, if_neg y7, hs, Bool.false_eq_true, if_false])⟩, hxi, hS.ed, hst.symm, by k_mem, by k_mem, by k_mem, by k_mem, hnI, (fun p hp => by k_mem), hne, hS.off⟩ (by k_mem) (by k_mem) (by k_mem) hq fo hin (hdl.append (.one (.str _ _)))
end
end
section
open PySem PySem.W PyProof.Rows PySem.Calls PySem.Spec
set_option maxRecDepth 100000
set_option maxHeartbeats 0
theorem lines_C12to1_1 : True := by
  k_with_none
  k_with "eval Constant int" => (refine flat_int ?_)
  k_with "eval Constant str" => (refine flat_str ?_)
  k_with "call builtin:issubclass" => (k_here; k_dflt (refine' issub_call ?kqk1 ?_; (case kqk1 => exact News.get (by k_asm) (by k_mem)); k_whole); intro tk)
  k_with "callWith" => (k_here; (with_reducible show wpAny _ _ (callWith _ (Value.builtin _) (_ :: _) _ _) _ _ _); refine callWith_method1 ?_)
  trivial
section
variable {w : World} {mean : ExcName → Option Value} {mg mb : Str → Option Value} {dp un : Nat} {gd : Option (List Code)} {cn : Str} {cs : Scope} {a : Addr} {ccd : Value} {cl : List (Str × Addr)} {outer : List Env} {A₀ : Around} {base h₀ : Heap} {L : Addr} {m : Str → Option Value} {news : List (Addr × Obj)} {s : Shared} {Q E : Value → Shared → Prop}
theorem lines_C12to1_2 : True := by
  k_with "exec Try" => (k_here; (refine hold_it ?_))
  k_with "call ref" => (k_here; (with_reducible show wpAny _ _ (call (Value.ref 201) _) _ _ _); k_dflt (refine' join_spec ?kqh1 ?kqh2 ?kqh3 ?kqk1 ?kqk2 ?kqk3 ?kqk4 ?kqk5 ?kqkK ?kqkd ?kqku ?_; (case kqh1 => omega); (case kqh2 => omega); (case kqh3 => omega); (case kqk1 => k_asm); (case kqk2 => k_asm); (case kqk3 => k_asm); (case kqk4 => k_asm); (case kqk5 => k_asm); (case kqkK => first | exact rfl | assumption); (case kqkd => ktr_room); (case kqku => ktr_units); k_whole); intro t' h' tk' F' N'; (try k_sweep))
  k_with "call ref" => (k_here; (with_reducible show wpAny _ _ (call (Value.ref 215) _) _ _ _); k_dflt (refine' norm_as ?kqh1 ?kqk1 ?kqk2 ?kqk3 ?kqk4 ?kqk5 ?kqkK ?kqkd ?kqku ?_; (case kqh1 => assumption); (case kqk1 => k_asm); (case kqk2 => k_asm); (case kqk3 => k_asm); (case kqk4 => k_asm); (case kqk5 => k_asm); (case kqkK => first | exact rfl | assumption); (case kqkd => ktr_room); (case kqku => ktr_units); k_whole); intro t' h' tk' F' N'; (try k_sweep))
  k_with "call ref" => (k_here; (with_reducible show wpAny _ _ (call (Value.ref 229) _) _ _ _); k_dflt (refine' answer_spec ?kqh1 ?kqh2 ?kqh3 ?kqk1 ?kqk2 ?kqk3 ?kqk4 ?kqk5 ?kqkK ?kqkd ?kqku ?_; (case kqh1 => omega); (case kqh2 => omega); (case kqh3 => omega); (case kqk1 => k_asm); (case kqk2 => k_asm); (case kqk3 => k_asm); (case kqk4 => k_asm); (case kqk5 => k_asm); (case kqkK => first | exact rfl | assumption); (case kqkd => ktr_room); (case kqku => ktr_units); k_whole); intro t' h' tk' F' N'; (try k_sweep))
  k_with "call ref" => (k_here; (with_reducible show wpAny _ _ (call (Value.ref 65) _) _ _ _); k_dflt (refine' p229ok_at ?kqho ?kqh1 ?kqh2 ?kqk1 ?kqk2 ?kqk3 ?kqk4 ?kqk5 ?kqkK ?kqkd ?kqku ?kqkm ?_; (case kqho => assumption); (case kqh1 => assumption); (case kqh2 => assumption); (case kqk1 => k_asm); (case kqk2 => k_asm); (case kqk3 => k_asm); (case kqk4 => k_asm); (case kqk5 => k_asm); (case kqkK => first | exact rfl | assumption); (case kqkd => ktr_room); (case kqku => ktr_units); (case kqkm => k_mem); k_whole); intro r' t' h' tk' D' F' N'; (replace D' := allNeA_of D'); (simp only [AllNeA, and_true] at D'); (repeat (obtain ⟨_, D'⟩ := D')); (try k_sweep))
  k_with "call ref" => (k_here; (with_reducible show wpAny _ _ (call (Value.ref 79) _) _ _ _); k_dflt (refine' push_K ?kqh1 ?kqh2 ?kqh3 ?kqk1 ?kqk2 ?kqk3 ?kqk4 ?kqkU ?kqk5 ?kqkK ?kqkd ?kqku ?_; (case kqk1 => k_asm); (case kqk2 => k_asm); (case kqk3 => k_asm); (case kqk4 => k_asm); (case kqkU => k_updF); (case kqh2 => assumption); (case kqh1 => omega); (case kqh3 => assumption); (case kqk5 => k_asm); (case kqkK => first | exact rfl | assumption); (case kqkd => ktr_room); (case kqku => ktr_units); k_whole); intro vs' n' ns' h' tk' I' P' H' F' N'; (try k_sweep))
  k_with "call ref" => (k_here; (with_reducible show wpAny _ _ (call (Value.ref 86) _) _ _ _); k_dflt (refine' pop_R ?kqh1 ?kqh2 ?kqh3 ?kqhR ?kqk1 ?kqk2 ?kqk3 ?kqk4 ?kqkU ?kqk5 ?kqkK ?kqkd ?kqku ?_; (case kqk1 => k_asm); (case kqk2 => k_asm); (case kqk3 => k_asm); (case kqk4 => k_asm); (case kqkU => k_updF); (case kqh2 => assumption); (case kqh1 => omega); (case kqh3 => assumption); (case kqk5 => k_asm); (case kqkK => first | exact rfl | assumption); (case kqkd => ktr_room); (case kqku => ktr_units); (case kqhR => assumption); k_whole); intro vs' n' ns' r' t' h' tk' I' P' H' M' R1' R2' G' F' N'; (try k_sweep))
  k_with "call ref" => (k_here; (with_reducible show wpAny _ _ (call (Value.ref 93) _) _ _ _); k_dflt (refine' pushpop_R ?kqh1 ?kqh2 ?kqh3 ?kqhR ?kqk1 ?kqk2 ?kqk3 ?kqk4 ?kqkU ?kqk5 ?kqkK ?kqkd ?kqku ?_; (case kqk1 => k_asm); (case kqk2 => k_asm); (case kqk3 => k_asm); (case kqk4 => k_asm); (case kqkU => k_updF); (case kqh2 => assumption); (case kqh1 => omega); (case kqh3 => assumption); (case kqk5 => k_asm); (case kqkK => first | exact rfl | assumption); (case kqkd => ktr_room); (case kqku => ktr_units); (case kqhR => assumption); k_whole); intro vs' n' ns' r' t' h' tk' I' P' H' M' R1' R2' F' N'; (try k_sweep))
  k_with "binaryOp Mod int int" => (k_here; k_dflt (refine' s_mod ?kqf ?kqb ?_; (case kqf => assumption); (case kqb => omega); k_whole); intro t' k')
  k_with "binaryOp FloorDiv int int" => (k_here; k_dflt (refine' s_div ?kqf ?kqb ?kqc ?_; (case kqf => assumption); (case kqb => omega); (case kqc => omega); k_whole); intro t' k')
  k_with "subscriptTail Name BinOp ref int" => (k_here; k_dflt (refine' l_itemAs ?kqh ?kqn ?kqm ?_ ?kqk6; (case kqn => k_asm); (case kqm => k_mem); (case kqh => assumption); (case kqk6 => with_unfolding_all rfl); k_whole))
  k_with "subscriptTail Constant" => (k_here; k_dflt (refine' s_item ?kqz0 ?kqz1 ?kqz2 ?kqz ?_ ?kqy1 ?kqy2; (case kqz => assumption); (case kqz0 => omega); (case kqz1 => omega); (case kqz2 => omega); (case kqy1 => with_unfolding_all rfl); (case kqy2 => (intro _; with_unfolding_all rfl)); k_whole); intro t' k')
  k_with "subscriptTail Call Constant ref int" => (k_here; k_dflt (refine' l_tup0 ?kqn ?kqm ?_ ?kqk6; (case kqn => k_asm); (case kqm => k_mem); (case kqk6 => with_unfolding_all rfl); k_whole))
  k_with "compareOp NotEq ref ref" => (k_here; k_dflt (refine' l_neNil ?kqn ?kqm ?kqm2 ?kqhh ?kqht ?kqho ?kqhu ?kqhb ?_; (case kqn => k_asm); (case kqm => k_mem); (case kqm2 => k_mem); (case kqhh => assumption); (case kqht => (intro p hp; k_mem)); (case kqho => assumption); (case kqhb => assumption); (case kqhu => ktr_units); k_whole))
  k_with "compareOp NotEq ref ref" => (k_here; k_dflt (refine' l_neInts ?kqn ?kqm ?kqm2 ?kqhI ?kqhu ?kqhb ?_; (case kqn => k_asm); (case kqm => k_mem); (case kqm2 => k_mem); (case kqhI => assumption); (case kqhb => assumption); (case kqhu => ktr_units); k_whole))
  k_with "call builtin:len" => (k_here; k_dflt (refine' l_len ?kqn ?kqm ?kqz ?_; (case kqn => k_asm); (case kqm => k_mem); (case kqz => omega); k_whole); intro t' k')
  k_with "call builtin:list.append" => (k_here; k_dflt (refine' l_append ?kqk1 ?kqk2 ?kqk3 ?kqz ?_; (case kqk1 => k_asm); (case kqk2 => k_asm); (case kqk3 => k_upd); (case kqz => first | (simp only [List.length_append, List.length_cons, List.length_nil]; omega) | omega); k_whole); intro h' F' N'; (try k_sweep))
  k_with "call builtin:list.pop" => (k_here; k_dflt (refine' l_popAt ?kqk1 ?kqk2 ?kqe ?kqk3 ?kqz ?_; (case kqk1 => k_asm); (case kqk2 => k_asm); (case kqk3 => k_upd); (case kqe => assumption); (case kqz => omega); k_whole); intro h' F' N'; (try k_sweep))
  k_with "compareOp Eq int int" => (k_here; refine' s_eqI ?kqf ?_; (case kqf => with_reducible assumption); k_whole)
  k_with "compareOp Lt int int" => (k_here; refine' s_ltI ?kqf ?_; (case kqf => with_reducible assumption); k_whole)
  k_with "compareOp NotEq int int" => (k_here; refine' s_neI ?kqf ?_; (case kqf => with_reducible assumption); k_whole)
  k_with "compareOp Gt int int" => (k_here; refine' s_gtI ?kqf ?_; (case kqf => with_reducible assumption); k_whole)
  trivial
theorem talk_to1 {g₀ g h : Heap} {L₂ lq lh ll lw lf lnum It : Addr} {oI : Obj} {QF : Flow → Shared → Prop} {ns qs : List Int} {mz m₁ : Str → Option Value} {i j k3 c : Nat} {x v κ fr : Int} {wd fd : Str} {t u1 u2 u3 u4 tw tf tfr tpl : Tok} {vH vQ vL vw vf vsN : List Value} {nH nQ nL nw nf n tk : Nat} {tl : List (Addr × Obj)} {d : DS}
   (XB : (hd.heap_39 w.params).In base) (TB : Top hd.view_39 (looseW hd.view_39 []) mean mg mb base) (B : Below (ktrTop dp un gd cn cs L a ccd [] []) base [envOf cn cs L a ccd] g) (X : (hd.heap_39 w.params).In g) (T : Top hd.view_39 (looseW hd.view_39 []) mean mg mb g) (D : KtsDicts ([envOf cn cs L a ccd].filterMap (·.frame)) g) (K : KtsTurn ([envOf cn cs L a ccd].filterMap (·.frame)) g₀ g) (hk : cs.kind = .function) (hdp : dp + 6 < recursionLimit) (hun : un + 100 < cLine)
   (hxi : ns[i]? = some x) (hS : TalkS lq lh ll lw lf ns mz i m₁ qs fr tfr tpl vH vQ vL tl d) (hne : ∀ p ∈ tl, p.1 ≠ It) (hnI : ∀ p ∈ [ll, lh, lq, lw, lf, lnum], p ≠ It)
   (lo : (NeA lw ll ∧ NeA lf ll ∧ NeA lnum ll ∧ NeA lw lh ∧ NeA lf lh ∧ NeA lnum lh ∧ NeA lw lq ∧ NeA lf lq ∧ NeA lnum lq) ∧ NeA lh ll ∧ NeA lq ll ∧ NeA lq lh) (FF : TalkF i x v κ j k3 c wd fd tw tf qs vH vQ vL vw vf d) (hc : κ = 0 ∨ κ = 1) (hl4 : ¬ d.held.length = 4) (hqe : ¬ qs = [])
   (F1 : Fr g L₂ h (fun y => if y = Str.ofString "name" then some (.str (PP (filesGo j d.names)) u4) else if y = Str.ofString "mark" then some (.str ⟨#[c]⟩ u3) else if y = Str.ofString "value" then some (.int v u2) else if y = Str.ofString "kind" then some (.int κ u1) else if y = Str.ofString "x" then some (.int x t) else talkFr mz m₁ lq lh ll lw lf fr tfr (PP d.names) tpl y))
   (N1 : News g L₂ h ((ll, listOf vL.toArray nL) :: (lh, listOf vH.toArray nH) :: (lq, listOf vQ.toArray nQ) :: (lw, listOf vw.toArray nw) :: (lf, listOf vf.toArray nf) :: (lnum, listOf vsN.toArray n) :: (It, oI) :: tl)) :
   wpAny (model Challenge.rw_pd0171_01.row.prog w) ((ktrTop dp un gd cn cs L a ccd [] []).deeper (envOf (Str.ofString "_law_talk") (fnScope w.params 236) L₂ 236 (.ref 235))) (execs (talkLast w.params) (envOf (Str.ofString "_law_talk") (fnScope w.params 236) L₂ 236 (.ref 235))) (GEnd (TalkG w mean mg mb (ktrTop dp un gd cn cs L a ccd [] []) base g₀ [envOf cn cs L a ccd]) L₂ lnum It oI (listOf vsN.toArray n) (TalkJ ⟨lq, lh, ll, lw, lf, lnum, vw, vf, vsN, nw, nf, n⟩ ns mz (i + 1)) s QF) E { s with heap := h, toks := tk } := by
  revert X
  k_fill
  intro X
  refine noE ?_
  obtain ⟨nI1, nI2, nI3, nI4, nI5, nI6⟩ := nI_A hnI
  obtain ⟨⟨lo1, lo2, lo3, lo4, lo5, lo6, lo7, lo8, lo9⟩, lo10, lo11, lo12⟩ := lo
  have hoff := hS.off
  have hin := hS.hin
  have hdl := hS.dl
  have hq := hS.hq
  have fo := hS.fo
  have hpo := fo.hp
  obtain ⟨hok, hk6, hkk, hv, hv2, hj, hj5, hj2, hm2, hm3, hm4, hmk, hW, hF, lH, lL, lQ, b2, b3, b4, hho, lp, lp0, lw1, lf1, nF, nFl, hOk0⟩ := FF
  have hOk : OkFor c (PP (filesGo j d.names)) := ⟨hOk0⟩
  clear hOk0
  (with_unfolding_all conv in (talkLast _) => whnf)
  (with_unfolding_all conv in (occs := *) (fnScope _ _) => all_goals whnf)
  have q3 : (κ == 3) = false := eqI_f (by omega)
  have q2 : (κ == 2) = false := eqI_f (by omega)
  have q4 : (κ == 4) = false := eqI_f (by omega)
  have q5 : (κ == 5) = false := eqI_f (by omega)
  have hl3 := le3_of b2 hl4
  have qm : decide ((vH.length : Int) < 4) = true := ltI_t (by omega)
  have qe : qs.isEmpty = false := by simpa using hqe
  have hqp : 0 < qs.length := List.length_pos_iff.mpr hqe
  have hrg := fo.range
  have hst := step_open (x := x) (by omega) hl4 (hv2 ▸ hj)
  clear hc
  k_steps
  unfold Hold
  refine try_ok (qs := qs) (hOk.h _ (by assumption) (by assumption)) ?a ?b XB TB (by assumption) (by assumption) (by assumption) (by assumption) (by assumption) hk hdp hun (Fr.ps (by k_asm) (List.forall_mem_cons.mpr ⟨by with_unfolding_all rfl, List.forall_mem_cons.mpr ⟨by with_unfolding_all rfl, List.forall_mem_cons.mpr ⟨by with_unfolding_all rfl, List.forall_mem_cons.mpr ⟨by with_unfolding_all rfl, List.forall_mem_cons.mpr ⟨by with_unfolding_all rfl, List.forall_mem_cons.mpr ⟨by with_unfolding_all rfl, List.forall_mem_nil _⟩⟩⟩⟩⟩⟩)) (news_tail (by assumption)) ⟨lo10.h, lo11.h, lo12.h⟩ ?off ?ret
  case a => omega
  case b => omega
  case off => exact off_7 ⟨lo1.h, lo2.h, lo3.h, lo4.h, lo5.h, lo6.h, lo7.h, lo8.h, lo9.h⟩ ⟨nI1.h, nI2.h, nI3.h, nI4.h, nI5.h, nI6.h⟩ hS.off
  case ret =>
    intro h' tk' t' th T1 T2 q1 q2 F' N'
    obtain ⟨fo2, fL, _, _⟩ := free_pop (nm := PP (filesGo j d.names)) fo (by assumption) (by assumption) (by assumption)
    (try dsimp only)
    k_steps
    exact talk_finO (j := j) (c := ⟨lq, lh, ll, lw, lf, lnum, vw, vf, vsN, nw, nf, n⟩) ⟨by assumption, by assumption, by assumption, by assumption, by assumption⟩ ⟨by k_asm, by k_asm, ⟨List.forall_mem_cons.mpr ⟨by with_unfolding_all rfl, List.forall_mem_cons.mpr ⟨by with_unfolding_all rfl, List.forall_mem_cons.mpr ⟨by with_unfolding_all rfl, List.forall_mem_cons.mpr ⟨by with_unfolding_all rfl, List.forall_mem_cons.mpr ⟨by with_unfolding_all rfl, List.forall_mem_cons.mpr ⟨by with_unfolding_all rfl, List.forall_mem_cons.mpr ⟨by with_unfolding_all rfl, List.forall_mem_nil _⟩⟩⟩⟩⟩⟩⟩, fun z hz hs => by (obtain ⟨z1, z2, z3, z4, z5, z6, z7, z8, z9, z10, z11⟩ := talkZ hs; obtain ⟨y1, y2, y3, y4, y5, y6, y7⟩ := talkY hz; simp only [kstB, tryPs, talkFr, talkPs, if_neg z1, if_neg z2, if_neg z3, if_neg z4, if_neg z5, if_neg z6, if_neg z7, if_neg z8, if_neg z9, if_neg z10, if_neg z11, if_neg y1, if_neg y2, if_neg y3, if_neg y4, if_neg y5, if_neg y6, if_neg y7, hs, Bool.false_eq_true, if_false])⟩, hxi, hS.ed, hst.symm, by k_mem, by k_mem, by k_mem, by k_mem, hnI, (fun p hp => by k_mem), hne, hS.off⟩ fL (by k_mem) (by k_mem) (by k_mem) (by assumption) fo2 (by k_mem) (by k_mem) (Nat.ne_of_gt q1.2.2.2.2.2.2.1) (Nat.ne_of_gt q2.2.2.2.2.2.2.1) (ne3 q1) (ne3 q2) hin hdl
end
end
section
open PySem PySem.W PyProof.Rows PySem.Calls PySem.Spec
set_option maxRecDepth 100000
set_option maxHeartbeats 0
theorem lines_C12to2_1 : True := by
  k_with_none
  k_with "eval Constant int" => (refine flat_int ?_)
  k_with "eval Constant str" => (refine flat_str ?_)
  k_with "call builtin:issubclass" => (k_here; k_dflt (refine' issub_call ?kqk1 ?_; (case kqk1 => exact News.get (by k_asm) (by k_mem)); k_whole); intro tk)
  k_with "callWith" => (k_here; (with_reducible show wpAny _ _ (callWith _ (Value.builtin _) (_ :: _) _ _) _ _ _); refine callWith_method1 ?_)
  trivial
section
variable {w : World} {mean : ExcName → Option Value} {mg mb : Str → Option Value} {dp un : Nat} {gd : Option (List Code)} {cn : Str} {cs : Scope} {a : Addr} {ccd : Value} {cl : List (Str × Addr)} {outer : List Env} {A₀ : Around} {base h₀ : Heap} {L : Addr} {m : Str → Option Value} {news : List (Addr × Obj)} {s : Shared} {Q E : Value → Shared → Prop}
theorem lines_C12to2_2 : True := by
  k_with "exec Try" => (k_here; (refine hold_it ?_))
  k_with "call ref" => (k_here; (with_reducible show wpAny _ _ (call (Value.ref 201) _) _ _ _); k_dflt (refine' join_spec ?kqh1 ?kqh2 ?kqh3 ?kqk1 ?kqk2 ?kqk3 ?kqk4 ?kqk5 ?kqkK ?kqkd ?kqku ?_; (case kqh1 => omega); (case kqh2 => omega); (case kqh3 => omega); (case kqk1 => k_asm); (case kqk2 => k_asm); (case kqk3 => k_asm); (case kqk4 => k_asm); (case kqk5 => k_asm); (case kqkK => first | exact rfl | assumption); (case kqkd => ktr_room); (case kqku => ktr_units); k_whole); intro t' h' tk' F' N'; (try k_sweep))
  k_with "call ref" => (k_here; (with_reducible show wpAny _ _ (call (Value.ref 215) _) _ _ _); k_dflt (refine' norm_as ?kqh1 ?kqk1 ?kqk2 ?kqk3 ?kqk4 ?kqk5 ?kqkK ?kqkd ?kqku ?_; (case kqh1 => assumption); (case kqk1 => k_asm); (case kqk2 => k_asm); (case kqk3 => k_asm); (case kqk4 => k_asm); (case kqk5 => k_asm); (case kqkK => first | exact rfl | assumption); (case kqkd => ktr_room); (case kqku => ktr_units); k_whole); intro t' h' tk' F' N'; (try k_sweep))
  k_with "call ref" => (k_here; (with_reducible show wpAny _ _ (call (Value.ref 229) _) _ _ _); k_dflt (refine' answer_spec ?kqh1 ?kqh2 ?kqh3 ?kqk1 ?kqk2 ?kqk3 ?kqk4 ?kqk5 ?kqkK ?kqkd ?kqku ?_; (case kqh1 => omega); (case kqh2 => omega); (case kqh3 => omega); (case kqk1 => k_asm); (case kqk2 => k_asm); (case kqk3 => k_asm); (case kqk4 => k_asm); (case kqk5 => k_asm); (case kqkK => first | exact rfl | assumption); (case kqkd => ktr_room); (case kqku => ktr_units); k_whole); intro t' h' tk' F' N'; (try k_sweep))
  k_with "call ref" => (k_here; (with_reducible show wpAny _ _ (call (Value.ref 65) _) _ _ _); k_dflt (refine' p229ok_at ?kqho ?kqh1 ?kqh2 ?kqk1 ?kqk2 ?kqk3 ?kqk4 ?kqk5 ?kqkK ?kqkd ?kqku ?kqkm ?_; (case kqho => assumption); (case kqh1 => assumption); (case kqh2 => assumption); (case kqk1 => k_asm); (case kqk2 => k_asm); (case kqk3 => k_asm); (case kqk4 => k_asm); (case kqk5 => k_asm); (case kqkK => first | exact rfl | assumption); (case kqkd => ktr_room); (case kqku => ktr_units); (case kqkm => k_mem); k_whole); intro r' t' h' tk' D' F' N'; (replace D' := allNeA_of D'); (simp only [AllNeA, and_true] at D'); (repeat (obtain ⟨_, D'⟩ := D')); (try k_sweep))
  k_with "call ref" => (k_here; (with_reducible show wpAny _ _ (call (Value.ref 79) _) _ _ _); k_dflt (refine' push_K ?kqh1 ?kqh2 ?kqh3 ?kqk1 ?kqk2 ?kqk3 ?kqk4 ?kqkU ?kqk5 ?kqkK ?kqkd ?kqku ?_; (case kqk1 => k_asm); (case kqk2 => k_asm); (case kqk3 => k_asm); (case kqk4 => k_asm); (case kqkU => k_updF); (case kqh2 => assumption); (case kqh1 => omega); (case kqh3 => assumption); (case kqk5 => k_asm); (case kqkK => first | exact rfl | assumption); (case kqkd => ktr_room); (case kqku => ktr_units); k_whole); intro vs' n' ns' h' tk' I' P' H' F' N'; (try k_sweep))
  k_with "call ref" => (k_here; (with_reducible show wpAny _ _ (call (Value.ref 86) _) _ _ _); k_dflt (refine' pop_R ?kqh1 ?kqh2 ?kqh3 ?kqhR ?kqk1 ?kqk2 ?kqk3 ?kqk4 ?kqkU ?kqk5 ?kqkK ?kqkd ?kqku ?_; (case kqk1 => k_asm); (case kqk2 => k_asm); (case kqk3 => k_asm); (case kqk4 => k_asm); (case kqkU => k_updF); (case kqh2 => assumption); (case kqh1 => omega); (case kqh3 => assumption); (case kqk5 => k_asm); (case kqkK => first | exact rfl | assumption); (case kqkd => ktr_room); (case kqku => ktr_units); (case kqhR => assumption); k_whole); intro vs' n' ns' r' t' h' tk' I' P' H' M' R1' R2' G' F' N'; (try k_sweep))
  k_with "call ref" => (k_here; (with_reducible show wpAny _ _ (call (Value.ref 93) _) _ _ _); k_dflt (refine' pushpop_R ?kqh1 ?kqh2 ?kqh3 ?kqhR ?kqk1 ?kqk2 ?kqk3 ?kqk4 ?kqkU ?kqk5 ?kqkK ?kqkd ?kqku ?_; (case kqk1 => k_asm); (case kqk2 => k_asm); (case kqk3 => k_asm); (case kqk4 => k_asm); (case kqkU => k_updF); (case kqh2 => assumption); (case kqh1 => omega); (case kqh3 => assumption); (case kqk5 => k_asm); (case kqkK => first | exact rfl | assumption); (case kqkd => ktr_room); (case kqku => ktr_units); (case kqhR => assumption); k_whole); intro vs' n' ns' r' t' h' tk' I' P' H' M' R1' R2' F' N'; (try k_sweep))
  k_with "binaryOp Mod int int" => (k_here; k_dflt (refine' s_mod ?kqf ?kqb ?_; (case kqf => assumption); (case kqb => omega); k_whole); intro t' k')
  k_with "binaryOp FloorDiv int int" => (k_here; k_dflt (refine' s_div ?kqf ?kqb ?kqc ?_; (case kqf => assumption); (case kqb => omega); (case kqc => omega); k_whole); intro t' k')
  k_with "subscriptTail Name BinOp ref int" => (k_here; k_dflt (refine' l_itemAs ?kqh ?kqn ?kqm ?_ ?kqk6; (case kqn => k_asm); (case kqm => k_mem); (case kqh => assumption); (case kqk6 => with_unfolding_all rfl); k_whole))
  k_with "subscriptTail Constant" => (k_here; k_dflt (refine' s_item ?kqz0 ?kqz1 ?kqz2 ?kqz ?_ ?kqy1 ?kqy2; (case kqz => assumption); (case kqz0 => omega); (case kqz1 => omega); (case kqz2 => omega); (case kqy1 => with_unfolding_all rfl); (case kqy2 => (intro _; with_unfolding_all rfl)); k_whole); intro t' k')
  k_with "subscriptTail Call Constant ref int" => (k_here; k_dflt (refine' l_tup0 ?kqn ?kqm ?_ ?kqk6; (case kqn => k_asm); (case kqm => k_mem); (case kqk6 => with_unfolding_all rfl); k_whole))
  k_with "compareOp NotEq ref ref" => (k_here; k_dflt (refine' l_neNil ?kqn ?kqm ?kqm2 ?kqhh ?kqht ?kqho ?kqhu ?kqhb ?_; (case kqn => k_asm); (case kqm => k_mem); (case kqm2 => k_mem); (case kqhh => assumption); (case kqht => (intro p hp; k_mem)); (case kqho => assumption); (case kqhb => assumption); (case kqhu => ktr_units); k_whole))
  k_with "compareOp NotEq ref ref" => (k_here; k_dflt (refine' l_neInts ?kqn ?kqm ?kqm2 ?kqhI ?kqhu ?kqhb ?_; (case kqn => k_asm); (case kqm => k_mem); (case kqm2 => k_mem); (case kqhI => assumption); (case kqhb => assumption); (case kqhu => ktr_units); k_whole))
  k_with "call builtin:len" => (k_here; k_dflt (refine' l_len ?kqn ?kqm ?kqz ?_; (case kqn => k_asm); (case kqm => k_mem); (case kqz => omega); k_whole); intro t' k')
  k_with "call builtin:list.append" => (k_here; k_dflt (refine' l_append ?kqk1 ?kqk2 ?kqk3 ?kqz ?_; (case kqk1 => k_asm); (case kqk2 => k_asm); (case kqk3 => k_upd); (case kqz => first | (simp only [List.length_append, List.length_cons, List.length_nil]; omega) | omega); k_whole); intro h' F' N'; (try k_sweep))
  k_with "call builtin:list.pop" => (k_here; k_dflt (refine' l_popAt ?kqk1 ?kqk2 ?kqe ?kqk3 ?kqz ?_; (case kqk1 => k_asm); (case kqk2 => k_asm); (case kqk3 => k_upd); (case kqe => assumption); (case kqz => omega); k_whole); intro h' F' N'; (try k_sweep))
  k_with "compareOp Eq int int" => (k_here; refine' s_eqI ?kqf ?_; (case kqf => with_reducible assumption); k_whole)
  k_with "compareOp Lt int int" => (k_here; refine' s_ltI ?kqf ?_; (case kqf => with_reducible assumption); k_whole)
  k_with "compareOp NotEq int int" => (k_here; refine' s_neI ?kqf ?_; (case kqf => with_reducible assumption); k_whole)
  k_with "compareOp Gt int int" => (k_here; refine' s_gtI ?kqf ?_; (case kqf => with_reducible assumption); k_whole)
  trivial
theorem talk_to2 {g₀ g h : Heap} {L₂ lq lh ll lw lf lnum It : Addr} {oI : Obj} {QF : Flow → Shared → Prop} {ns qs : List Int} {mz m₁ : Str → Option Value} {i j k3 c : Nat} {x v κ fr : Int} {wd fd : Str} {t u1 u2 u3 u4 tw tf tfr tpl : Tok} {vH vQ vL vw vf vsN : List Value} {nH nQ nL nw nf n tk : Nat} {tl : List (Addr × Obj)} {d : DS}
   (XB : (hd.heap_39 w.params).In base) (TB : Top hd.view_39 (looseW hd.view_39 []) mean mg mb base) (B : Below (ktrTop dp un gd cn cs L a ccd [] []) base [envOf cn cs L a ccd] g) (X : (hd.heap_39 w.params).In g) (T : Top hd.view_39 (looseW hd.view_39 []) mean mg mb g) (D : KtsDicts ([envOf cn cs L a ccd].filterMap (·.frame)) g) (K : KtsTurn ([envOf cn cs L a ccd].filterMap (·.frame)) g₀ g) (hk : cs.kind = .function) (hdp : dp + 6 < recursionLimit) (hun : un + 100 < cLine)
   (hxi : ns[i]? = some x) (hS : TalkS lq lh ll lw lf ns mz i m₁ qs fr tfr tpl vH vQ vL tl d) (hne : ∀ p ∈ tl, p.1 ≠ It) (hnI : ∀ p ∈ [ll, lh, lq, lw, lf, lnum], p ≠ It)
   (lo : (NeA lw ll ∧ NeA lf ll ∧ NeA lnum ll ∧ NeA lw lh ∧ NeA lf lh ∧ NeA lnum lh ∧ NeA lw lq ∧ NeA lf lq ∧ NeA lnum lq) ∧ NeA lh ll ∧ NeA lq ll ∧ NeA lq lh) (FF : TalkF i x v κ j k3 c wd fd tw tf qs vH vQ vL vw vf d) (hc : κ = 0 ∨ κ = 1) (hl4 : ¬ d.held.length = 4) (hqe : qs = [])
   (F1 : Fr g L₂ h (fun y => if y = Str.ofString "name" then some (.str (PP (filesGo j d.names)) u4) else if y = Str.ofString "mark" then some (.str ⟨#[c]⟩ u3) else if y = Str.ofString "value" then some (.int v u2) else if y = Str.ofString "kind" then some (.int κ u1) else if y = Str.ofString "x" then some (.int x t) else talkFr mz m₁ lq lh ll lw lf fr tfr (PP d.names) tpl y))
   (N1 : News g L₂ h ((ll, listOf vL.toArray nL) :: (lh, listOf vH.toArray nH) :: (lq, listOf vQ.toArray nQ) :: (lw, listOf vw.toArray nw) :: (lf, listOf vf.toArray nf) :: (lnum, listOf vsN.toArray n) :: (It, oI) :: tl)) :
   wpAny (model Challenge.rw_pd0171_01.row.prog w) ((ktrTop dp un gd cn cs L a ccd [] []).deeper (envOf (Str.ofString "_law_talk") (fnScope w.params 236) L₂ 236 (.ref 235))) (execs (talkLast w.params) (envOf (Str.ofString "_law_talk") (fnScope w.params 236) L₂ 236 (.ref 235))) (GEnd (TalkG w mean mg mb (ktrTop dp un gd cn cs L a ccd [] []) base g₀ [envOf cn cs L a ccd]) L₂ lnum It oI (listOf vsN.toArray n) (TalkJ ⟨lq, lh, ll, lw, lf, lnum, vw, vf, vsN, nw, nf, n⟩ ns mz (i + 1)) s QF) E { s with heap := h, toks := tk } := by
  revert X
  k_fill
  intro X
  refine noE ?_
  obtain ⟨nI1, nI2, nI3, nI4, nI5, nI6⟩ := nI_A hnI
  obtain ⟨⟨lo1, lo2, lo3, lo4, lo5, lo6, lo7, lo8, lo9⟩, lo10, lo11, lo12⟩ := lo
  have hoff := hS.off
  have hin := hS.hin
  have hdl := hS.dl
  have hq := hS.hq
  have fo := hS.fo
  have hpo := fo.hp
  obtain ⟨hok, hk6, hkk, hv, hv2, hj, hj5, hj2, hm2, hm3, hm4, hmk, hW, hF, lH, lL, lQ, b2, b3, b4, hho, lp, lp0, lw1, lf1, nF, nFl, hOk0⟩ := FF
  have hOk : OkFor c (PP (filesGo j d.names)) := ⟨hOk0⟩
  clear hOk0
  (with_unfolding_all conv in (talkLast _) => whnf)
  (with_unfolding_all conv in (occs := *) (fnScope _ _) => all_goals whnf)
  have q3 : (κ == 3) = false := eqI_f (by omega)
  have q2 : (κ == 2) = false := eqI_f (by omega)
  have q4 : (κ == 4) = false := eqI_f (by omega)
  have q5 : (κ == 5) = false := eqI_f (by omega)
  have hl3 := le3_of b2 hl4
  have qm : decide ((vH.length : Int) < 4) = true := ltI_t (by omega)
  subst hqe
  have qe : ([] : List Int).isEmpty = true := rfl
  obtain ⟨fo2, fL, fr1, fr2⟩ := free_new (nm := PP (filesGo j d.names)) fo hl3
  have fr0 : decide ((0 : Int) < fr) = true := ltI_t (by omega)
  have hst := step_open (x := x) (by omega) hl4 (hv2 ▸ hj)
  clear hc
  k_steps
  unfold Hold
  refine try_ok (qs := []) (hOk.h _ (by assumption) (by assumption)) ?a ?b XB TB (by assumption) (by assumption) (by assumption) (by assumption) (by assumption) hk hdp hun (Fr.ps (by k_asm) (List.forall_mem_cons.mpr ⟨by with_unfolding_all rfl, List.forall_mem_cons.mpr ⟨by with_unfolding_all rfl, List.forall_mem_cons.mpr ⟨by with_unfolding_all rfl, List.forall_mem_cons.mpr ⟨by with_unfolding_all rfl, List.forall_mem_cons.mpr ⟨by with_unfolding_all rfl, List.forall_mem_cons.mpr ⟨by with_unfolding_all rfl, List.forall_mem_nil _⟩⟩⟩⟩⟩⟩)) (news_tail (by assumption)) ⟨lo10.h, lo11.h, lo12.h⟩ ?off ?ret
  case a => omega
  case b => omega
  case off => exact off_7 ⟨lo1.h, lo2.h, lo3.h, lo4.h, lo5.h, lo6.h, lo7.h, lo8.h, lo9.h⟩ ⟨nI1.h, nI2.h, nI3.h, nI4.h, nI5.h, nI6.h⟩ hS.off
  case ret =>
    intro h' tk' t' th T1 T2 q1 q2 F' N'
    (try dsimp only)
    k_steps
    exact talk_finO (j := j) (c := ⟨lq, lh, ll, lw, lf, lnum, vw, vf, vsN, nw, nf, n⟩) ⟨by assumption, by assumption, by assumption, by assumption, by assumption⟩ ⟨by k_asm, by k_asm, ⟨List.forall_mem_cons.mpr ⟨by with_unfolding_all rfl, List.forall_mem_cons.mpr ⟨by with_unfolding_all rfl, List.forall_mem_cons.mpr ⟨by with_unfolding_all rfl, List.forall_mem_cons.mpr ⟨by with_unfolding_all rfl, List.forall_mem_cons.mpr ⟨by with_unfolding_all rfl, List.forall_mem_cons.mpr ⟨by with_unfolding_all rfl, List.forall_mem_cons.mpr ⟨by with_unfolding_all rfl, List.forall_mem_nil _⟩⟩⟩⟩⟩⟩⟩, fun z hz hs => by (obtain ⟨z1, z2, z3, z4, z5, z6, z7, z8, z9, z10, z11⟩ := talkZ hs; obtain ⟨y1, y2, y3, y4, y5, y6, y7⟩ := talkY hz; simp only [kstB, tryPs, talkFr, talkPs, if_neg z1, if_neg z2, if_neg z3, if_neg z4, if_neg z5, if_neg z6, if_neg z7, if_neg z8, if_neg z9, if_neg z10, if_neg z11, if_neg y1, if_neg y2, if_neg y3, if_neg y4, if_neg y5, if_neg y6, if_neg y7, hs, Bool.false_eq_true, if_false])⟩, hxi, hS.ed, hst.symm, by k_mem, by k_mem, by k_mem, by k_mem, hnI, (fun p hp => by k_mem), hne, hS.off⟩ fL (by k_mem) (by k_mem) (by k_mem) hq fo2 (by k_mem) (by k_mem) (Nat.ne_of_gt q1.2.2.2.2.2.2.1) (Nat.ne_of_gt q2.2.2.2.2.2.2.1) (ne3 q1) (ne3 q2) hin hdl
end
end
section
open PySem PySem.W PyProof.Rows PySem.Calls PySem.Spec
set_option maxRecDepth 100000
set_option maxHeartbeats 0
theorem lines_C12t3_1 : True := by
  k_with_none
  k_with "eval Constant int" => (refine flat_int ?_)
  k_with "eval Constant str" => (refine flat_str ?_)
  k_with "call builtin:issubclass" => (k_here; k_dflt (refine' issub_call ?kqk1 ?_; (case kqk1 => exact News.get (by k_asm) (by k_mem)); k_whole); intro tk)
  k_with "callWith" => (k_here; (with_reducible show wpAny _ _ (callWith _ (Value.builtin _) (_ :: _) _ _) _ _ _); refine callWith_method1 ?_)
  trivial
section
variable {w : World} {mean : ExcName → Option Value} {mg mb : Str → Option Value} {dp un : Nat} {gd : Option (List Code)} {cn : Str} {cs : Scope} {a : Addr} {ccd : Value} {cl : List (Str × Addr)} {outer : List Env} {A₀ : Around} {base h₀ : Heap} {L : Addr} {m : Str → Option Value} {news : List (Addr × Obj)} {s : Shared} {Q E : Value → Shared → Prop}
theorem lines_C12t3_2 : True := by
  k_with "exec Try" => (k_here; (refine hold_it ?_))
  k_with "call ref" => (k_here; (with_reducible show wpAny _ _ (call (Value.ref 201) _) _ _ _); k_dflt (refine' join_spec ?kqh1 ?kqh2 ?kqh3 ?kqk1 ?kqk2 ?kqk3 ?kqk4 ?kqk5 ?kqkK ?kqkd ?kqku ?_; (case kqh1 => omega); (case kqh2 => omega); (case kqh3 => omega); (case kqk1 => k_asm); (case kqk2 => k_asm); (case kqk3 => k_asm); (case kqk4 => k_asm); (case kqk5 => k_asm); (case kqkK => first | exact rfl | assumption); (case kqkd => ktr_room); (case kqku => ktr_units); k_whole); intro t' h' tk' F' N'; (try k_sweep))
  k_with "call ref" => (k_here; (with_reducible show wpAny _ _ (call (Value.ref 215) _) _ _ _); k_dflt (refine' norm_as ?kqh1 ?kqk1 ?kqk2 ?kqk3 ?kqk4 ?kqk5 ?kqkK ?kqkd ?kqku ?_; (case kqh1 => assumption); (case kqk1 => k_asm); (case kqk2 => k_asm); (case kqk3 => k_asm); (case kqk4 => k_asm); (case kqk5 => k_asm); (case kqkK => first | exact rfl | assumption); (case kqkd => ktr_room); (case kqku => ktr_units); k_whole); intro t' h' tk' F' N'; (try k_sweep))
  k_with "call ref" => (k_here; (with_reducible show wpAny _ _ (call (Value.ref 229) _) _ _ _); k_dflt (refine' answer_spec ?kqh1 ?kqh2 ?kqh3 ?kqk1 ?kqk2 ?kqk3 ?kqk4 ?kqk5 ?kqkK ?kqkd ?kqku ?_; (case kqh1 => omega); (case kqh2 => omega); (case kqh3 => omega); (case kqk1 => k_asm); (case kqk2 => k_asm); (case kqk3 => k_asm); (case kqk4 => k_asm); (case kqk5 => k_asm); (case kqkK => first | exact rfl | assumption); (case kqkd => ktr_room); (case kqku => ktr_units); k_whole); intro t' h' tk' F' N'; (try k_sweep))
  k_with "call ref" => (k_here; (with_reducible show wpAny _ _ (call (Value.ref 65) _) _ _ _); k_dflt (refine' p229ok_at ?kqho ?kqh1 ?kqh2 ?kqk1 ?kqk2 ?kqk3 ?kqk4 ?kqk5 ?kqkK ?kqkd ?kqku ?kqkm ?_; (case kqho => assumption); (case kqh1 => assumption); (case kqh2 => assumption); (case kqk1 => k_asm); (case kqk2 => k_asm); (case kqk3 => k_asm); (case kqk4 => k_asm); (case kqk5 => k_asm); (case kqkK => first | exact rfl | assumption); (case kqkd => ktr_room); (case kqku => ktr_units); (case kqkm => k_mem); k_whole); intro r' t' h' tk' D' F' N'; (replace D' := allNeA_of D'); (simp only [AllNeA, and_true] at D'); (repeat (obtain ⟨_, D'⟩ := D')); (try k_sweep))
  k_with "call ref" => (k_here; (with_reducible show wpAny _ _ (call (Value.ref 79) _) _ _ _); k_dflt (refine' push_K ?kqh1 ?kqh2 ?kqh3 ?kqk1 ?kqk2 ?kqk3 ?kqk4 ?kqkU ?kqk5 ?kqkK ?kqkd ?kqku ?_; (case kqk1 => k_asm); (case kqk2 => k_asm); (case kqk3 => k_asm); (case kqk4 => k_asm); (case kqkU => k_updF); (case kqh2 => assumption); (case kqh1 => omega); (case kqh3 => assumption); (case kqk5 => k_asm); (case kqkK => first | exact rfl | assumption); (case kqkd => ktr_room); (case kqku => ktr_units); k_whole); intro vs' n' ns' h' tk' I' P' H' F' N'; (try k_sweep))
  k_with "call ref" => (k_here; (with_reducible show wpAny _ _ (call (Value.ref 86) _) _ _ _); k_dflt (refine' pop_R ?kqh1 ?kqh2 ?kqh3 ?kqhR ?kqk1 ?kqk2 ?kqk3 ?kqk4 ?kqkU ?kqk5 ?kqkK ?kqkd ?kqku ?_; (case kqk1 => k_asm); (case kqk2 => k_asm); (case kqk3 => k_asm); (case kqk4 => k_asm); (case kqkU => k_updF); (case kqh2 => assumption); (case kqh1 => omega); (case kqh3 => assumption); (case kqk5 => k_asm); (case kqkK => first | exact rfl | assumption); (case kqkd => ktr_room); (case kqku => ktr_units); (case kqhR => assumption); k_whole); intro vs' n' ns' r' t' h' tk' I' P' H' M' R1' R2' G' F' N'; (try k_sweep))
  k_with "call ref" => (k_here; (with_reducible show wpAny _ _ (call (Value.ref 93) _) _ _ _); k_dflt (refine' pushpop_R ?kqh1 ?kqh2 ?kqh3 ?kqhR ?kqk1 ?kqk2 ?kqk3 ?kqk4 ?kqkU ?kqk5 ?kqkK ?kqkd ?kqku ?_; (case kqk1 => k_asm); (case kqk2 => k_asm); (case kqk3 => k_asm); (case kqk4 => k_asm); (case kqkU => k_updF); (case kqh2 => assumption); (case kqh1 => omega); (case kqh3 => assumption); (case kqk5 => k_asm); (case kqkK => first | exact rfl | assumption); (case kqkd => ktr_room); (case kqku => ktr_units); (case kqhR => assumption); k_whole); intro vs' n' ns' r' t' h' tk' I' P' H' M' R1' R2' F' N'; (try k_sweep))
  k_with "binaryOp Mod int int" => (k_here; k_dflt (refine' s_mod ?kqf ?kqb ?_; (case kqf => assumption); (case kqb => omega); k_whole); intro t' k')
  k_with "binaryOp FloorDiv int int" => (k_here; k_dflt (refine' s_div ?kqf ?kqb ?kqc ?_; (case kqf => assumption); (case kqb => omega); (case kqc => omega); k_whole); intro t' k')
  k_with "subscriptTail Name BinOp ref int" => (k_here; k_dflt (refine' l_itemAs ?kqh ?kqn ?kqm ?_ ?kqk6; (case kqn => k_asm); (case kqm => k_mem); (case kqh => assumption); (case kqk6 => with_unfolding_all rfl); k_whole))
  k_with "subscriptTail Constant" => (k_here; k_dflt (refine' s_item ?kqz0 ?kqz1 ?kqz2 ?kqz ?_ ?kqy1 ?kqy2; (case kqz => assumption); (case kqz0 => omega); (case kqz1 => omega); (case kqz2 => omega); (case kqy1 => with_unfolding_all rfl); (case kqy2 => (intro _; with_unfolding_all rfl)); k_whole); intro t' k')
  k_with "subscriptTail Call Constant ref int" => (k_here; k_dflt (refine' l_tup0 ?kqn ?kqm ?_ ?kqk6; (case kqn => k_asm); (case kqm => k_mem); (case kqk6 => with_unfolding_all rfl); k_whole))
  k_with "compareOp NotEq ref ref" => (k_here; k_dflt (refine' l_neNil ?kqn ?kqm ?kqm2 ?kqhh ?kqht ?kqho ?kqhu ?kqhb ?_; (case kqn => k_asm); (case kqm => k_mem); (case kqm2 => k_mem); (case kqhh => assumption); (case kqht => (intro p hp; k_mem)); (case kqho => assumption); (case kqhb => assumption); (case kqhu => ktr_units); k_whole))
  k_with "compareOp NotEq ref ref" => (k_here; k_dflt (refine' l_neInts ?kqn ?kqm ?kqm2 ?kqhI ?kqhu ?kqhb ?_; (case kqn => k_asm); (case kqm => k_mem); (case kqm2 => k_mem); (case kqhI => assumption); (case kqhb => assumption); (case kqhu => ktr_units); k_whole))
  k_with "call builtin:len" => (k_here; k_dflt (refine' l_len ?kqn ?kqm ?kqz ?_; (case kqn => k_asm); (case kqm => k_mem); (case kqz => omega); k_whole); intro t' k')
  k_with "call builtin:list.append" => (k_here; k_dflt (refine' l_append ?kqk1 ?kqk2 ?kqk3 ?kqz ?_; (case kqk1 => k_asm); (case kqk2 => k_asm); (case kqk3 => k_upd); (case kqz => first | (simp only [List.length_append, List.length_cons, List.length_nil]; omega) | omega); k_whole); intro h' F' N'; (try k_sweep))
  k_with "call builtin:list.pop" => (k_here; k_dflt (refine' l_popAt ?kqk1 ?kqk2 ?kqe ?kqk3 ?kqz ?_; (case kqk1 => k_asm); (case kqk2 => k_asm); (case kqk3 => k_upd); (case kqe => assumption); (case kqz => omega); k_whole); intro h' F' N'; (try k_sweep))
  k_with "compareOp Eq int int" => (k_here; refine' s_eqI ?kqf ?_; (case kqf => with_reducible assumption); k_whole)
  k_with "compareOp Lt int int" => (k_here; refine' s_ltI ?kqf ?_; (case kqf => with_reducible assumption); k_whole)
  k_with "compareOp NotEq int int" => (k_here; refine' s_neI ?kqf ?_; (case kqf => with_reducible assumption); k_whole)
  k_with "compareOp Gt int int" => (k_here; refine' s_gtI ?kqf ?_; (case kqf => with_reducible assumption); k_whole)
  k_with "call ref" => (k_here; (with_reducible show wpAny _ _ (call (Value.ref 201) _) _ _ _); k_dflt (refine' join_T ?kqh1 ?kqh2 ?kqh3 ?kqk1 ?kqk2 ?kqk3 ?kqk4 ?kqk5 ?kqkK ?kqkd ?kqku ?_; (case kqh1 => omega); (case kqh2 => omega); (case kqh3 => omega); (case kqk1 => k_asm); (case kqk2 => k_asm); (case kqk3 => k_asm); (case kqk4 => k_asm); (case kqk5 => k_asm); (case kqkK => first | exact rfl | assumption); (case kqkd => ktr_room); (case kqku => ktr_units); k_whole); intro t' h' tk' tl' F' N'; (dsimp only at tl'); (try k_sweep))
  k_with "call ref" => (k_here; (with_reducible show wpAny _ _ (call (Value.ref 215) _) _ _ _); k_dflt (refine' norm_T ?kqh1 ?kqk1 ?kqk2 ?kqk3 ?kqk4 ?kqk5 ?kqkK ?kqkd ?kqku ?_; (case kqh1 => assumption); (case kqk1 => k_asm); (case kqk2 => k_asm); (case kqk3 => k_asm); (case kqk4 => k_asm); (case kqk5 => k_asm); (case kqkK => first | exact rfl | assumption); (case kqkd => ktr_room); (case kqku => ktr_units); k_whole); intro t' h' tk' tl' F' N'; (dsimp only at tl'); (try k_sweep))
  k_with "call ref" => (k_here; (with_reducible show wpAny _ _ (call (Value.ref 72) _) _ _ _); k_dflt (refine' p257_as ?kqh1 ?kqk1 ?kqk2 ?kqk3 ?kqk4 ?kqk5 ?kqkK ?kqkd ?kqku ?_; (case kqh1 => assumption); (case kqk1 => k_asm); (case kqk2 => k_asm); (case kqk3 => k_asm); (case kqk4 => k_asm); (case kqk5 => k_asm); (case kqkK => first | exact rfl | assumption); (case kqkd => ktr_room); (case kqku => ktr_units); k_whole); intro t' h' tk' F' N'; (try k_sweep))
  k_with "binaryOp Mod int int" => (k_here; k_dflt (refine' s_modT ?kqf ?kqb ?_; (case kqf => assumption); (case kqb => omega); k_whole); intro t' k' tl'; (dsimp only at tl'))
  k_with "binaryOp Add str str" => (k_here; k_dflt (refine' s_add ?kqz ?_; (case kqz => first | omega | (simp only [Str.length_append]; omega)); k_whole); intro t' k')
  k_with "call builtin:str.replace" => (k_here; k_dflt (refine' s_replace ?kqhr ?kqhu ?kqhv ?kqhuv ?kqhyz ?kqhx ?kqhz ?_; (case kqhr => assumption); (case kqhu => (refine neN ?_; (try dsimp only); omega)); (case kqhv => (refine neN ?_; (try dsimp only); omega)); (case kqhuv => (refine neN ?_; (try dsimp only); omega)); (case kqhyz => decide +kernel); (case kqhx => omega); (case kqhz => decide +kernel); k_whole); intro t' k')
  trivial
theorem talk_t3 {g₀ g h : Heap} {L₂ lq lh ll lw lf lnum It : Addr} {oI : Obj} {QF : Flow → Shared → Prop} {ns qs : List Int} {mz m₁ : Str → Option Value} {i j k3 c : Nat} {x v κ fr : Int} {wd fd : Str} {t u1 u2 u3 u4 tw tf tfr tpl : Tok} {vH vQ vL vw vf vsN : List Value} {nH nQ nL nw nf n tk : Nat} {tl : List (Addr × Obj)} {d : DS}
   (XB : (hd.heap_39 w.params).In base) (TB : Top hd.view_39 (looseW hd.view_39 []) mean mg mb base) (B : Below (ktrTop dp un gd cn cs L a ccd [] []) base [envOf cn cs L a ccd] g) (X : (hd.heap_39 w.params).In g) (T : Top hd.view_39 (looseW hd.view_39 []) mean mg mb g) (D : KtsDicts ([envOf cn cs L a ccd].filterMap (·.frame)) g) (K : KtsTurn ([envOf cn cs L a ccd].filterMap (·.frame)) g₀ g) (hk : cs.kind = .function) (hdp : dp + 6 < recursionLimit) (hun : un + 100 < cLine)
   (hxi : ns[i]? = some x) (hS : TalkS lq lh ll lw lf ns mz i m₁ qs fr tfr tpl vH vQ vL tl d) (hne : ∀ p ∈ tl, p.1 ≠ It) (hnI : ∀ p ∈ [ll, lh, lq, lw, lf, lnum], p ≠ It)
   (lo : (NeA lw ll ∧ NeA lf ll ∧ NeA lnum ll ∧ NeA lw lh ∧ NeA lf lh ∧ NeA lnum lh ∧ NeA lw lq ∧ NeA lf lq ∧ NeA lnum lq) ∧ NeA lh ll ∧ NeA lq ll ∧ NeA lq lh) (FF : TalkF i x v κ j k3 c wd fd tw tf qs vH vQ vL vw vf d) (hc : κ = 3) {W : Str} (hr3 : Txt.replace (PP (waysGo j d.names)) (Str.ofString "\"") (Str.ofString "\"\"") = W) (lW : W.length ≤ 1000) (lP : (PP (waysGo j d.names)).length ≤ 500) (nW : NormIs (joinP (PP d.names) wd) (PP (waysGo j d.names))) (h257 : P257Is (Str.ofString "257 \"" ++ W ++ Str.ofString "\" is \"here\"") (PP (waysGo j d.names)))
   (F1 : Fr g L₂ h (fun y => if y = Str.ofString "name" then some (.str (PP (filesGo j d.names)) u4) else if y = Str.ofString "mark" then some (.str ⟨#[c]⟩ u3) else if y = Str.ofString "value" then some (.int v u2) else if y = Str.ofString "kind" then some (.int κ u1) else if y = Str.ofString "x" then some (.int x t) else talkFr mz m₁ lq lh ll lw lf fr tfr (PP d.names) tpl y))
   (N1 : News g L₂ h ((ll, listOf vL.toArray nL) :: (lh, listOf vH.toArray nH) :: (lq, listOf vQ.toArray nQ) :: (lw, listOf vw.toArray nw) :: (lf, listOf vf.toArray nf) :: (lnum, listOf vsN.toArray n) :: (It, oI) :: tl)) :
   wpAny (model Challenge.rw_pd0171_01.row.prog w) ((ktrTop dp un gd cn cs L a ccd [] []).deeper (envOf (Str.ofString "_law_talk") (fnScope w.params 236) L₂ 236 (.ref 235))) (execs (talkLast w.params) (envOf (Str.ofString "_law_talk") (fnScope w.params 236) L₂ 236 (.ref 235))) (GEnd (TalkG w mean mg mb (ktrTop dp un gd cn cs L a ccd [] []) base g₀ [envOf cn cs L a ccd]) L₂ lnum It oI (listOf vsN.toArray n) (TalkJ ⟨lq, lh, ll, lw, lf, lnum, vw, vf, vsN, nw, nf, n⟩ ns mz (i + 1)) s QF) E { s with heap := h, toks := tk } := by
  revert X
  k_fill
  intro X
  refine noE ?_
  obtain ⟨nI1, nI2, nI3, nI4, nI5, nI6⟩ := nI_A hnI
  obtain ⟨⟨lo1, lo2, lo3, lo4, lo5, lo6, lo7, lo8, lo9⟩, lo10, lo11, lo12⟩ := lo
  have hoff := hS.off
  have hin := hS.hin
  have hdl := hS.dl
  have hq := hS.hq
  have fo := hS.fo
  have hpo := fo.hp
  obtain ⟨hok, hk6, hkk, hv, hv2, hj, hj5, hj2, hm2, hm3, hm4, hmk, hW, hF, lH, lL, lQ, b2, b3, b4, hho, lp, lp0, lw1, lf1, nF, nFl, hOk0⟩ := FF
  have hOk : OkFor c (PP (filesGo j d.names)) := ⟨hOk0⟩
  clear hOk0
  (with_unfolding_all conv in (talkLast _) => whnf)
  (with_unfolding_all conv in (occs := *) (fnScope _ _) => all_goals whnf)
  subst hc
  have e1 : (Str.ofString "257 \"").length = 5 := by decide +kernel
  have e2 : (Str.ofString "\" is \"here\"").length = 11 := by decide +kernel
  clear hOk
  k_steps
  exact talk_fin0 (c := ⟨lq, lh, ll, lw, lf, lnum, vw, vf, vsN, nw, nf, n⟩) ⟨by assumption, by assumption, by assumption, by assumption, by assumption⟩ ⟨by k_asm, by k_asm, ⟨List.forall_mem_cons.mpr ⟨by with_unfolding_all rfl, List.forall_mem_cons.mpr ⟨by with_unfolding_all rfl, List.forall_mem_cons.mpr ⟨by with_unfolding_all rfl, List.forall_mem_cons.mpr ⟨by with_unfolding_all rfl, List.forall_mem_cons.mpr ⟨by with_unfolding_all rfl, List.forall_mem_cons.mpr ⟨by with_unfolding_all rfl, List.forall_mem_cons.mpr ⟨by with_unfolding_all rfl, List.forall_mem_nil _⟩⟩⟩⟩⟩⟩⟩, fun z hz hs => by (obtain ⟨z1, z2, z3, z4, z5, z6, z7, z8, z9, z10, z11⟩ := talkZ hs; obtain ⟨y1, y2, y3, y4, y5, y6, y7⟩ := talkY hz; simp only [kstB, tryPs, talkFr, talkPs, if_neg z1, if_neg z2, if_neg z3, if_neg z4, if_neg z5, if_neg z6, if_neg z7, if_neg z8, if_neg z9, if_neg z10, if_neg z11, if_neg y1, if_neg y2, if_neg y3, if_neg y4, if_neg y5, if_neg y6, if_neg y7, hs, Bool.false_eq_true, if_false])⟩, hxi, hS.ed, (step_way hkk (hv2 ▸ hj)).symm, by k_mem, by k_mem, by k_mem, by k_mem, hnI, (fun p hp => by k_mem), hne, hS.off⟩ (by k_mem) (by k_mem) (by k_mem) hq fo hin (hdl.append (.one (.str _ _)))
end
end
section
open PySem PySem.W PyProof.Rows PySem.Calls PySem.Spec
set_option maxRecDepth 100000
set_option maxHeartbeats 0
theorem lines_W50_1 : True := by
  k_with_none
  k_with "eval Constant int" => (refine flat_int ?_)
  k_with "eval Constant str" => (refine flat_str ?_)
  k_with "call builtin:issubclass" => (k_here; k_dflt (refine' issub_call ?kqk1 ?_; (case kqk1 => exact News.get (by k_asm) (by k_mem)); k_whole); intro tk)
  k_with "callWith" => (k_here; (with_reducible show wpAny _ _ (callWith _ (Value.builtin _) (_ :: _) _ _) _ _ _); refine callWith_method1 ?_)
  trivial
section
variable {w : World} {mean : ExcName → Option Value} {mg mb : Str → Option Value} {dp un : Nat} {gd : Option (List Code)} {cn : Str} {cs : Scope} {a : Addr} {ccd : Value} {cl : List (Str × Addr)} {outer : List Env} {A₀ : Around} {base h₀ : Heap} {L : Addr} {m : Str → Option Value} {news : List (Addr × Obj)} {s : Shared} {Q E : Value → Shared → Prop}
theorem lines_W50_2 : True := by
  k_with "exec Try" => (k_here; (refine hold_it ?_))
  k_with "call ref" => (k_here; (with_reducible show wpAny _ _ (call (Value.ref 201) _) _ _ _); k_dflt (refine' join_spec ?kqh1 ?kqh2 ?kqh3 ?kqk1 ?kqk2 ?kqk3 ?kqk4 ?kqk5 ?kqkK ?kqkd ?kqku ?_; (case kqh1 => omega); (case kqh2 => omega); (case kqh3 => omega); (case kqk1 => k_asm); (case kqk2 => k_asm); (case kqk3 => k_asm); (case kqk4 => k_asm); (case kqk5 => k_asm); (case kqkK => first | exact rfl | assumption); (case kqkd => ktr_room); (case kqku => ktr_units); k_whole); intro t' h' tk' F' N'; (try k_sweep))
  k_with "call ref" => (k_here; (with_reducible show wpAny _ _ (call (Value.ref 215) _) _ _ _); k_dflt (refine' norm_as ?kqh1 ?kqk1 ?kqk2 ?kqk3 ?kqk4 ?kqk5 ?kqkK ?kqkd ?kqku ?_; (case kqh1 => assumption); (case kqk1 => k_asm); (case kqk2 => k_asm); (case kqk3 => k_asm); (case kqk4 => k_asm); (case kqk5 => k_asm); (case kqkK => first | exact rfl | assumption); (case kqkd => ktr_room); (case kqku => ktr_units); k_whole); intro t' h' tk' F' N'; (try k_sweep))
  k_with "call ref" => (k_here; (with_reducible show wpAny _ _ (call (Value.ref 229) _) _ _ _); k_dflt (refine' answer_spec ?kqh1 ?kqh2 ?kqh3 ?kqk1 ?kqk2 ?kqk3 ?kqk4 ?kqk5 ?kqkK ?kqkd ?kqku ?_; (case kqh1 => omega); (case kqh2 => omega); (case kqh3 => omega); (case kqk1 => k_asm); (case kqk2 => k_asm); (case kqk3 => k_asm); (case kqk4 => k_asm); (case kqk5 => k_asm); (case kqkK => first | exact rfl | assumption); (case kqkd => ktr_room); (case kqku => ktr_units); k_whole); intro t' h' tk' F' N'; (try k_sweep))
  k_with "call ref" => (k_here; (with_reducible show wpAny _ _ (call (Value.ref 65) _) _ _ _); k_dflt (refine' p229ok_at ?kqho ?kqh1 ?kqh2 ?kqk1 ?kqk2 ?kqk3 ?kqk4 ?kqk5 ?kqkK ?kqkd ?kqku ?kqkm ?_; (case kqho => assumption); (case kqh1 => assumption); (case kqh2 => assumption); (case kqk1 => k_asm); (case kqk2 => k_asm); (case kqk3 => k_asm); (case kqk4 => k_asm); (case kqk5 => k_asm); (case kqkK => first | exact rfl | assumption); (case kqkd => ktr_room); (case kqku => ktr_units); (case kqkm => k_mem); k_whole); intro r' t' h' tk' D' F' N'; (replace D' := allNeA_of D'); (simp only [AllNeA, and_true] at D'); (repeat (obtain ⟨_, D'⟩ := D')); (try k_sweep))
  k_with "call ref" => (k_here; (with_reducible show wpAny _ _ (call (Value.ref 79) _) _ _ _); k_dflt (refine' push_K ?kqh1 ?kqh2 ?kqh3 ?kqk1 ?kqk2 ?kqk3 ?kqk4 ?kqkU ?kqk5 ?kqkK ?kqkd ?kqku ?_; (case kqk1 => k_asm); (case kqk2 => k_asm); (case kqk3 => k_asm); (case kqk4 => k_asm); (case kqkU => k_updF); (case kqh2 => assumption); (case kqh1 => omega); (case kqh3 => assumption); (case kqk5 => k_asm); (case kqkK => first | exact rfl | assumption); (case kqkd => ktr_room); (case kqku => ktr_units); k_whole); intro vs' n' ns' h' tk' I' P' H' F' N'; (try k_sweep))
  k_with "call ref" => (k_here; (with_reducible show wpAny _ _ (call (Value.ref 86) _) _ _ _); k_dflt (refine' pop_R ?kqh1 ?kqh2 ?kqh3 ?kqhR ?kqk1 ?kqk2 ?kqk3 ?kqk4 ?kqkU ?kqk5 ?kqkK ?kqkd ?kqku ?_; (case kqk1 => k_asm); (case kqk2 => k_asm); (case kqk3 => k_asm); (case kqk4 => k_asm); (case kqkU => k_updF); (case kqh2 => assumption); (case kqh1 => omega); (case kqh3 => assumption); (case kqk5 => k_asm); (case kqkK => first | exact rfl | assumption); (case kqkd => ktr_room); (case kqku => ktr_units); (case kqhR => assumption); k_whole); intro vs' n' ns' r' t' h' tk' I' P' H' M' R1' R2' G' F' N'; (try k_sweep))
  k_with "call ref" => (k_here; (with_reducible show wpAny _ _ (call (Value.ref 93) _) _ _ _); k_dflt (refine' pushpop_R ?kqh1 ?kqh2 ?kqh3 ?kqhR ?kqk1 ?kqk2 ?kqk3 ?kqk4 ?kqkU ?kqk5 ?kqkK ?kqkd ?kqku ?_; (case kqk1 => k_asm); (case kqk2 => k_asm); (case kqk3 => k_asm); (case kqk4 => k_asm); (case kqkU => k_updF); (case kqh2 => assumption); (case kqh1 => omega); (case kqh3 => assumption); (case kqk5 => k_asm); (case kqkK => first | exact rfl | assumption); (case kqkd => ktr_room); (case kqku => ktr_units); (case kqhR => assumption); k_whole); intro vs' n' ns' r' t' h' tk' I' P' H' M' R1' R2' F' N'; (try k_sweep))
  k_with "binaryOp Mod int int" => (k_here; k_dflt (refine' s_mod ?kqf ?kqb ?_; (case kqf => assumption); (case kqb => omega); k_whole); intro t' k')
  k_with "binaryOp FloorDiv int int" => (k_here; k_dflt (refine' s_div ?kqf ?kqb ?kqc ?_; (case kqf => assumption); (case kqb => omega); (case kqc => omega); k_whole); intro t' k')
  k_with "subscriptTail Name BinOp ref int" => (k_here; k_dflt (refine' l_itemAs ?kqh ?kqn ?kqm ?_ ?kqk6; (case kqn => k_asm); (case kqm => k_mem); (case kqh => assumption); (case kqk6 => with_unfolding_all rfl); k_whole))
  k_with "subscriptTail Constant" => (k_here; k_dflt (refine' s_item ?kqz0 ?kqz1 ?kqz2 ?kqz ?_ ?kqy1 ?kqy2; (case kqz => assumption); (case kqz0 => omega); (case kqz1 => omega); (case kqz2 => omega); (case kqy1 => with_unfolding_all rfl); (case kqy2 => (intro _; with_unfolding_all rfl)); k_whole); intro t' k')
  k_with "subscriptTail Call Constant ref int" => (k_here; k_dflt (refine' l_tup0 ?kqn ?kqm ?_ ?kqk6; (case kqn => k_asm); (case kqm => k_mem); (case kqk6 => with_unfolding_all rfl); k_whole))
  k_with "compareOp NotEq ref ref" => (k_here; k_dflt (refine' l_neNil ?kqn ?kqm ?kqm2 ?kqhh ?kqht ?kqho ?kqhu ?kqhb ?_; (case kqn => k_asm); (case kqm => k_mem); (case kqm2 => k_mem); (case kqhh => assumption); (case kqht => (intro p hp; k_mem)); (case kqho => assumption); (case kqhb => assumption); (case kqhu => ktr_units); k_whole))
  k_with "compareOp NotEq ref ref" => (k_here; k_dflt (refine' l_neInts ?kqn ?kqm ?kqm2 ?kqhI ?kqhu ?kqhb ?_; (case kqn => k_asm); (case kqm => k_mem); (case kqm2 => k_mem); (case kqhI => assumption); (case kqhb => assumption); (case kqhu => ktr_units); k_whole))
  k_with "call builtin:len" => (k_here; k_dflt (refine' l_len ?kqn ?kqm ?kqz ?_; (case kqn => k_asm); (case kqm => k_mem); (case kqz => omega); k_whole); intro t' k')
  k_with "call builtin:list.append" => (k_here; k_dflt (refine' l_append ?kqk1 ?kqk2 ?kqk3 ?kqz ?_; (case kqk1 => k_asm); (case kqk2 => k_asm); (case kqk3 => k_upd); (case kqz => first | (simp only [List.length_append, List.length_cons, List.length_nil]; omega) | omega); k_whole); intro h' F' N'; (try k_sweep))
  k_with "call builtin:list.pop" => (k_here; k_dflt (refine' l_popAt ?kqk1 ?kqk2 ?kqe ?kqk3 ?kqz ?_; (case kqk1 => k_asm); (case kqk2 => k_asm); (case kqk3 => k_upd); (case kqe => assumption); (case kqz => omega); k_whole); intro h' F' N'; (try k_sweep))
  k_with "compareOp Eq int int" => (k_here; refine' s_eqI ?kqf ?_; (case kqf => with_reducible assumption); k_whole)
  k_with "compareOp Lt int int" => (k_here; refine' s_ltI ?kqf ?_; (case kqf => with_reducible assumption); k_whole)
  k_with "compareOp NotEq int int" => (k_here; refine' s_neI ?kqf ?_; (case kqf => with_reducible assumption); k_whole)
  k_with "compareOp Gt int int" => (k_here; refine' s_gtI ?kqf ?_; (case kqf => with_reducible assumption); k_whole)
  k_with "binaryOp Add str str" => (k_here; k_dflt (refine' s_addF ?kqhx ?kqhy ?kqhz ?_; (case kqhx => omega); (case kqhy => omega); (case kqhz => omega); k_whole))
  k_with "binaryOp Mult str int" => (k_here; k_dflt (first | ((with_reducible show wpAny _ _ (binaryOp _ _ (Value.int 3 _)) _ _ _); refine' s_mul3F ?_) | ((with_reducible show wpAny _ _ (binaryOp _ _ (Value.int 4 _)) _ _ _); refine' s_mul4F ?_)))
  k_with "call builtin:str.replace" => (k_here; k_dflt (refine' s_replaceW ?kqhr ?kqhu ?kqhv ?kqhuv ?_; (case kqhr => assumption); (case kqhu => (refine neN ?_; (try dsimp only); omega)); (case kqhv => (refine neN ?_; (try dsimp only); omega)); (case kqhuv => (refine neN ?_; (try dsimp only); omega)); k_whole); intro t' k')
  k_with "subscriptTail Name Constant ref int" => (k_here; k_dflt (first | ((with_reducible show wpAny _ _ (subscriptTail _ _ _ (Value.int 0 _)) _ _ _); refine' l_tup0 ?kqn ?kqm ?_ ?kqk6; (case kqn => k_asm); (case kqm => k_mem); (case kqk6 => with_unfolding_all rfl)) | ((with_reducible show wpAny _ _ (subscriptTail _ _ _ (Value.int 1 _)) _ _ _); refine' l_tup1 ?kqn ?kqm ?_ ?kqk6; (case kqn => k_asm); (case kqm => k_mem); (case kqk6 => with_unfolding_all rfl))))
  trivial
theorem tail_50 {g₀ g h : Heap} {L₂ lq lh ll : Addr} {nm X0 : Str} {c : Nat} {tk5 tv tm tn tp : Tok} {p v v3 : Int} {mz : Str → Option Value} {qs : List Int} {vH vQ vL : List Value} {nH nQ nL tk : Nat} {rest : List (Addr × Obj)} {QF : Flow → Shared → Prop} (hw : WrongIs (pre229 c p ++ nm) (⟨#[c]⟩ ++ Str.ofString ")") (Str.ofString ")") X0) (hp1 : 1024 ≤ p) (hp2 : p < 1028) (lnm : nm.length ≤ 500) (h3 : v.fdiv 3 = v3) (h4 : v3.fmod 3 = 0) (hl : qs.length ≤ 3) (hI : IntsAre vQ qs) (hH : HeapOk qs) (lLe : vL.length ≤ 1000) (lHe : vH.length ≤ 1000)
   (XB : (hd.heap_39 w.params).In base) (TB : Top hd.view_39 (looseW hd.view_39 []) mean mg mb base) (B : Below (ktrTop dp un gd cn cs L a ccd [] []) base [envOf cn cs L a ccd] g) (X : (hd.heap_39 w.params).In g) (T : Top hd.view_39 (looseW hd.view_39 []) mean mg mb g) (D : KtsDicts ([envOf cn cs L a ccd].filterMap (·.frame)) g) (K : KtsTurn ([envOf cn cs L a ccd].filterMap (·.frame)) g₀ g) (hk : cs.kind = .function) (hdp : dp + 6 < recursionLimit) (hun : un + 100 < cLine)
   (F : Fr g L₂ h (kstB mz (tailPs lq lh ll c nm v p tk5 tv tm tn tp))) (N : News g L₂ h ((ll, listOf vL.toArray nL) :: (lh, listOf vH.toArray nH) :: (lq, listOf vQ.toArray nQ) :: rest))
   (no : @Ne Nat lh ll ∧ @Ne Nat lq ll ∧ @Ne Nat lq lh) (off : OwnOff rest [ll, lh, lq])
   (ret : ∀ g' h' tk' m' vQ' nQ' qs' t', IntsAre vQ' qs' → qs'.Perm (p :: qs) → HeapOk qs' → TalkG w mean mg mb (ktrTop dp un gd cn cs L a ccd [] []) base g₀ [envOf cn cs L a ccd] g' → Fr g' L₂ h' m' → (∀ z, talkStored.contains z = false → m' z = kstB mz (tailPs lq lh ll c nm v p tk5 tv tm tn tp) z) →
     News g' L₂ h' ((ll, listOf (vL ++ [Value.str (Str.ofString "no mark") t']).toArray (nL + 1)) :: (lh, listOf vH.toArray nH) :: (lq, listOf vQ'.toArray nQ') :: rest) → QF .next { s with heap := h', toks := tk' }) :
   wpAny (model Challenge.rw_pd0171_01.row.prog w) ((ktrTop dp un gd cn cs L a ccd [] []).deeper (envOf (Str.ofString "_law_talk") (fnScope w.params 236) L₂ 236 (.ref 235))) (execs (talkTail w.params) (envOf (Str.ofString "_law_talk") (fnScope w.params 236) L₂ 236 (.ref 235))) QF E { s with heap := h, toks := tk } := by
  revert X
  k_fill
  intro X
  refine noE ?_
  have hbad := hw.bad
  have gp : decide ((0 : Int) < p) = true := ltI_t (by omega)
  have e4 : (⟨#[c]⟩ : Str).length = 1 := rfl
  have e5 : (Str.ofString ")").length = 1 := by decide +kernel
  have e6 : (Str.ofString "x)").length = 2 := by decide +kernel
  (with_unfolding_all conv in (talkTail _) => whnf)
  (with_unfolding_all conv in (occs := *) (fnScope _ _) => all_goals whnf)
  k_steps
  unfold Hold
  refine try_bad (qs := qs) hbad hl hI hH lLe lHe XB TB (by assumption) (by assumption) (by assumption) (by assumption) (by assumption) hk hdp hun (Fr.ps (by k_asm) (List.forall_mem_cons.mpr ⟨by with_unfolding_all rfl, List.forall_mem_cons.mpr ⟨by with_unfolding_all rfl, List.forall_mem_cons.mpr ⟨by with_unfolding_all rfl, List.forall_mem_cons.mpr ⟨by with_unfolding_all rfl, List.forall_mem_cons.mpr ⟨by with_unfolding_all rfl, List.forall_mem_cons.mpr ⟨by with_unfolding_all rfl, List.forall_mem_nil _⟩⟩⟩⟩⟩⟩)) (KStt.news_of (by assumption) (fun q hq => by (repeat (first | exact hq | refine List.mem_cons_of_mem _ ?_)))) no off ?ret
  case ret =>
    intro g' h' tk' vQ' nQ' qs' t' I' P' H' G' F' N'
    (try dsimp only)
    k_steps
    refine ret _ _ _ _ _ _ _ _ I' P' H' G' F' (fun z hs => ?_) N'
    obtain ⟨z1, z2, z3, z4, z5, z6, z7, z8, z9, z10, z11⟩ := talkZ hs
    simp only [kstB, tryPs, tailPs, if_neg z1, if_neg z2, if_neg z3, if_neg z4, if_neg z5, if_neg z6, if_neg z7, if_neg z8, if_neg z9, if_neg z10, if_neg z11]
    by_cases y1 : z = Str.ofString "held"
    · simp only [if_pos y1]
    · by_cases y2 : z = Str.ofString "log"
      · simp only [if_neg y1, if_pos y2]
      · by_cases y3 : z = Str.ofString "free"
        · simp only [if_neg y1, if_neg y2, if_pos y3]
        · simp only [if_neg y1, if_neg y2, if_neg y3]
end
end
section
open PySem PySem.W PyProof.Rows PySem.Calls PySem.Spec
set_option maxRecDepth 100000
set_option maxHeartbeats 0
theorem lines_W51_1 : True := by
  k_with_none
  k_with "eval Constant int" => (refine flat_int ?_)
  k_with "eval Constant str" => (refine flat_str ?_)
  k_with "call builtin:issubclass" => (k_here; k_dflt (refine' issub_call ?kqk1 ?_; (case kqk1 => exact News.get (by k_asm) (by k_mem)); k_whole); intro tk)
  k_with "callWith" => (k_here; (with_reducible show wpAny _ _ (callWith _ (Value.builtin _) (_ :: _) _ _) _ _ _); refine callWith_method1 ?_)
  trivial
section
variable {w : World} {mean : ExcName → Option Value} {mg mb : Str → Option Value} {dp un : Nat} {gd : Option (List Code)} {cn : Str} {cs : Scope} {a : Addr} {ccd : Value} {cl : List (Str × Addr)} {outer : List Env} {A₀ : Around} {base h₀ : Heap} {L : Addr} {m : Str → Option Value} {news : List (Addr × Obj)} {s : Shared} {Q E : Value → Shared → Prop}
theorem lines_W51_2 : True := by
  k_with "exec Try" => (k_here; (refine hold_it ?_))
  k_with "call ref" => (k_here; (with_reducible show wpAny _ _ (call (Value.ref 201) _) _ _ _); k_dflt (refine' join_spec ?kqh1 ?kqh2 ?kqh3 ?kqk1 ?kqk2 ?kqk3 ?kqk4 ?kqk5 ?kqkK ?kqkd ?kqku ?_; (case kqh1 => omega); (case kqh2 => omega); (case kqh3 => omega); (case kqk1 => k_asm); (case kqk2 => k_asm); (case kqk3 => k_asm); (case kqk4 => k_asm); (case kqk5 => k_asm); (case kqkK => first | exact rfl | assumption); (case kqkd => ktr_room); (case kqku => ktr_units); k_whole); intro t' h' tk' F' N'; (try k_sweep))
  k_with "call ref" => (k_here; (with_reducible show wpAny _ _ (call (Value.ref 215) _) _ _ _); k_dflt (refine' norm_as ?kqh1 ?kqk1 ?kqk2 ?kqk3 ?kqk4 ?kqk5 ?kqkK ?kqkd ?kqku ?_; (case kqh1 => assumption); (case kqk1 => k_asm); (case kqk2 => k_asm); (case kqk3 => k_asm); (case kqk4 => k_asm); (case kqk5 => k_asm); (case kqkK => first | exact rfl | assumption); (case kqkd => ktr_room); (case kqku => ktr_units); k_whole); intro t' h' tk' F' N'; (try k_sweep))
  k_with "call ref" => (k_here; (with_reducible show wpAny _ _ (call (Value.ref 229) _) _ _ _); k_dflt (refine' answer_spec ?kqh1 ?kqh2 ?kqh3 ?kqk1 ?kqk2 ?kqk3 ?kqk4 ?kqk5 ?kqkK ?kqkd ?kqku ?_; (case kqh1 => omega); (case kqh2 => omega); (case kqh3 => omega); (case kqk1 => k_asm); (case kqk2 => k_asm); (case kqk3 => k_asm); (case kqk4 => k_asm); (case kqk5 => k_asm); (case kqkK => first | exact rfl | assumption); (case kqkd => ktr_room); (case kqku => ktr_units); k_whole); intro t' h' tk' F' N'; (try k_sweep))
  k_with "call ref" => (k_here; (with_reducible show wpAny _ _ (call (Value.ref 65) _) _ _ _); k_dflt (refine' p229ok_at ?kqho ?kqh1 ?kqh2 ?kqk1 ?kqk2 ?kqk3 ?kqk4 ?kqk5 ?kqkK ?kqkd ?kqku ?kqkm ?_; (case kqho => assumption); (case kqh1 => assumption); (case kqh2 => assumption); (case kqk1 => k_asm); (case kqk2 => k_asm); (case kqk3 => k_asm); (case kqk4 => k_asm); (case kqk5 => k_asm); (case kqkK => first | exact rfl | assumption); (case kqkd => ktr_room); (case kqku => ktr_units); (case kqkm => k_mem); k_whole); intro r' t' h' tk' D' F' N'; (replace D' := allNeA_of D'); (simp only [AllNeA, and_true] at D'); (repeat (obtain ⟨_, D'⟩ := D')); (try k_sweep))
  k_with "call ref" => (k_here; (with_reducible show wpAny _ _ (call (Value.ref 79) _) _ _ _); k_dflt (refine' push_K ?kqh1 ?kqh2 ?kqh3 ?kqk1 ?kqk2 ?kqk3 ?kqk4 ?kqkU ?kqk5 ?kqkK ?kqkd ?kqku ?_; (case kqk1 => k_asm); (case kqk2 => k_asm); (case kqk3 => k_asm); (case kqk4 => k_asm); (case kqkU => k_updF); (case kqh2 => assumption); (case kqh1 => omega); (case kqh3 => assumption); (case kqk5 => k_asm); (case kqkK => first | exact rfl | assumption); (case kqkd => ktr_room); (case kqku => ktr_units); k_whole); intro vs' n' ns' h' tk' I' P' H' F' N'; (try k_sweep))
  k_with "call ref" => (k_here; (with_reducible show wpAny _ _ (call (Value.ref 86) _) _ _ _); k_dflt (refine' pop_R ?kqh1 ?kqh2 ?kqh3 ?kqhR ?kqk1 ?kqk2 ?kqk3 ?kqk4 ?kqkU ?kqk5 ?kqkK ?kqkd ?kqku ?_; (case kqk1 => k_asm); (case kqk2 => k_asm); (case kqk3 => k_asm); (case kqk4 => k_asm); (case kqkU => k_updF); (case kqh2 => assumption); (case kqh1 => omega); (case kqh3 => assumption); (case kqk5 => k_asm); (case kqkK => first | exact rfl | assumption); (case kqkd => ktr_room); (case kqku => ktr_units); (case kqhR => assumption); k_whole); intro vs' n' ns' r' t' h' tk' I' P' H' M' R1' R2' G' F' N'; (try k_sweep))
  k_with "call ref" => (k_here; (with_reducible show wpAny _ _ (call (Value.ref 93) _) _ _ _); k_dflt (refine' pushpop_R ?kqh1 ?kqh2 ?kqh3 ?kqhR ?kqk1 ?kqk2 ?kqk3 ?kqk4 ?kqkU ?kqk5 ?kqkK ?kqkd ?kqku ?_; (case kqk1 => k_asm); (case kqk2 => k_asm); (case kqk3 => k_asm); (case kqk4 => k_asm); (case kqkU => k_updF); (case kqh2 => assumption); (case kqh1 => omega); (case kqh3 => assumption); (case kqk5 => k_asm); (case kqkK => first | exact rfl | assumption); (case kqkd => ktr_room); (case kqku => ktr_units); (case kqhR => assumption); k_whole); intro vs' n' ns' r' t' h' tk' I' P' H' M' R1' R2' F' N'; (try k_sweep))
  k_with "binaryOp Mod int int" => (k_here; k_dflt (refine' s_mod ?kqf ?kqb ?_; (case kqf => assumption); (case kqb => omega); k_whole); intro t' k')
  k_with "binaryOp FloorDiv int int" => (k_here; k_dflt (refine' s_div ?kqf ?kqb ?kqc ?_; (case kqf => assumption); (case kqb => omega); (case kqc => omega); k_whole); intro t' k')
  k_with "subscriptTail Name BinOp ref int" => (k_here; k_dflt (refine' l_itemAs ?kqh ?kqn ?kqm ?_ ?kqk6; (case kqn => k_asm); (case kqm => k_mem); (case kqh => assumption); (case kqk6 => with_unfolding_all rfl); k_whole))
  k_with "subscriptTail Constant" => (k_here; k_dflt (refine' s_item ?kqz0 ?kqz1 ?kqz2 ?kqz ?_ ?kqy1 ?kqy2; (case kqz => assumption); (case kqz0 => omega); (case kqz1 => omega); (case kqz2 => omega); (case kqy1 => with_unfolding_all rfl); (case kqy2 => (intro _; with_unfolding_all rfl)); k_whole); intro t' k')
  k_with "subscriptTail Call Constant ref int" => (k_here; k_dflt (refine' l_tup0 ?kqn ?kqm ?_ ?kqk6; (case kqn => k_asm); (case kqm => k_mem); (case kqk6 => with_unfolding_all rfl); k_whole))
  k_with "compareOp NotEq ref ref" => (k_here; k_dflt (refine' l_neNil ?kqn ?kqm ?kqm2 ?kqhh ?kqht ?kqho ?kqhu ?kqhb ?_; (case kqn => k_asm); (case kqm => k_mem); (case kqm2 => k_mem); (case kqhh => assumption); (case kqht => (intro p hp; k_mem)); (case kqho => assumption); (case kqhb => assumption); (case kqhu => ktr_units); k_whole))
  k_with "compareOp NotEq ref ref" => (k_here; k_dflt (refine' l_neInts ?kqn ?kqm ?kqm2 ?kqhI ?kqhu ?kqhb ?_; (case kqn => k_asm); (case kqm => k_mem); (case kqm2 => k_mem); (case kqhI => assumption); (case kqhb => assumption); (case kqhu => ktr_units); k_whole))
  k_with "call builtin:len" => (k_here; k_dflt (refine' l_len ?kqn ?kqm ?kqz ?_; (case kqn => k_asm); (case kqm => k_mem); (case kqz => omega); k_whole); intro t' k')
  k_with "call builtin:list.append" => (k_here; k_dflt (refine' l_append ?kqk1 ?kqk2 ?kqk3 ?kqz ?_; (case kqk1 => k_asm); (case kqk2 => k_asm); (case kqk3 => k_upd); (case kqz => first | (simp only [List.length_append, List.length_cons, List.length_nil]; omega) | omega); k_whole); intro h' F' N'; (try k_sweep))
  k_with "call builtin:list.pop" => (k_here; k_dflt (refine' l_popAt ?kqk1 ?kqk2 ?kqe ?kqk3 ?kqz ?_; (case kqk1 => k_asm); (case kqk2 => k_asm); (case kqk3 => k_upd); (case kqe => assumption); (case kqz => omega); k_whole); intro h' F' N'; (try k_sweep))
  k_with "compareOp Eq int int" => (k_here; refine' s_eqI ?kqf ?_; (case kqf => with_reducible assumption); k_whole)
  k_with "compareOp Lt int int" => (k_here; refine' s_ltI ?kqf ?_; (case kqf => with_reducible assumption); k_whole)
  k_with "compareOp NotEq int int" => (k_here; refine' s_neI ?kqf ?_; (case kqf => with_reducible assumption); k_whole)
  k_with "compareOp Gt int int" => (k_here; refine' s_gtI ?kqf ?_; (case kqf => with_reducible assumption); k_whole)
  k_with "binaryOp Add str str" => (k_here; k_dflt (refine' s_addF ?kqhx ?kqhy ?kqhz ?_; (case kqhx => omega); (case kqhy => omega); (case kqhz => omega); k_whole))
  k_with "binaryOp Mult str int" => (k_here; k_dflt (first | ((with_reducible show wpAny _ _ (binaryOp _ _ (Value.int 3 _)) _ _ _); refine' s_mul3F ?_) | ((with_reducible show wpAny _ _ (binaryOp _ _ (Value.int 4 _)) _ _ _); refine' s_mul4F ?_)))
  k_with "call builtin:str.replace" => (k_here; k_dflt (refine' s_replaceW ?kqhr ?kqhu ?kqhv ?kqhuv ?_; (case kqhr => assumption); (case kqhu => (refine neN ?_; (try dsimp only); omega)); (case kqhv => (refine neN ?_; (try dsimp only); omega)); (case kqhuv => (refine neN ?_; (try dsimp only); omega)); k_whole); intro t' k')
  k_with "subscriptTail Name Constant ref int" => (k_here; k_dflt (first | ((with_reducible show wpAny _ _ (subscriptTail _ _ _ (Value.int 0 _)) _ _ _); refine' l_tup0 ?kqn ?kqm ?_ ?kqk6; (case kqn => k_asm); (case kqm => k_mem); (case kqk6 => with_unfolding_all rfl)) | ((with_reducible show wpAny _ _ (subscriptTail _ _ _ (Value.int 1 _)) _ _ _); refine' l_tup1 ?kqn ?kqm ?_ ?kqk6; (case kqn => k_asm); (case kqm => k_mem); (case kqk6 => with_unfolding_all rfl))))
  trivial
theorem tail_51 {g₀ g h : Heap} {L₂ lq lh ll : Addr} {nm X0 : Str} {c : Nat} {tk5 tv tm tn tp : Tok} {p v v3 : Int} {mz : Str → Option Value} {qs : List Int} {vH vQ vL : List Value} {nH nQ nL tk : Nat} {rest : List (Addr × Obj)} {QF : Flow → Shared → Prop} (hw : WrongIs (pre229 c p ++ nm) ⟨#[c, c, c]⟩ ⟨#[c, c, c, c]⟩ X0) (hp1 : 1024 ≤ p) (hp2 : p < 1028) (lnm : nm.length ≤ 500) (h3 : v.fdiv 3 = v3) (h4 : v3.fmod 3 = 1) (hl : qs.length ≤ 3) (hI : IntsAre vQ qs) (hH : HeapOk qs) (lLe : vL.length ≤ 1000) (lHe : vH.length ≤ 1000)
   (XB : (hd.heap_39 w.params).In base) (TB : Top hd.view_39 (looseW hd.view_39 []) mean mg mb base) (B : Below (ktrTop dp un gd cn cs L a ccd [] []) base [envOf cn cs L a ccd] g) (X : (hd.heap_39 w.params).In g) (T : Top hd.view_39 (looseW hd.view_39 []) mean mg mb g) (D : KtsDicts ([envOf cn cs L a ccd].filterMap (·.frame)) g) (K : KtsTurn ([envOf cn cs L a ccd].filterMap (·.frame)) g₀ g) (hk : cs.kind = .function) (hdp : dp + 6 < recursionLimit) (hun : un + 100 < cLine)
   (F : Fr g L₂ h (kstB mz (tailPs lq lh ll c nm v p tk5 tv tm tn tp))) (N : News g L₂ h ((ll, listOf vL.toArray nL) :: (lh, listOf vH.toArray nH) :: (lq, listOf vQ.toArray nQ) :: rest))
   (no : @Ne Nat lh ll ∧ @Ne Nat lq ll ∧ @Ne Nat lq lh) (off : OwnOff rest [ll, lh, lq])
   (ret : ∀ g' h' tk' m' vQ' nQ' qs' t', IntsAre vQ' qs' → qs'.Perm (p :: qs) → HeapOk qs' → TalkG w mean mg mb (ktrTop dp un gd cn cs L a ccd [] []) base g₀ [envOf cn cs L a ccd] g' → Fr g' L₂ h' m' → (∀ z, talkStored.contains z = false → m' z = kstB mz (tailPs lq lh ll c nm v p tk5 tv tm tn tp) z) →
     News g' L₂ h' ((ll, listOf (vL ++ [Value.str (Str.ofString "no mark") t']).toArray (nL + 1)) :: (lh, listOf vH.toArray nH) :: (lq, listOf vQ'.toArray nQ') :: rest) → QF .next { s with heap := h', toks := tk' }) :
   wpAny (model Challenge.rw_pd0171_01.row.prog w) ((ktrTop dp un gd cn cs L a ccd [] []).deeper (envOf (Str.ofString "_law_talk") (fnScope w.params 236) L₂ 236 (.ref 235))) (execs (talkTail w.params) (envOf (Str.ofString "_law_talk") (fnScope w.params 236) L₂ 236 (.ref 235))) QF E { s with heap := h, toks := tk } := by
  revert X
  k_fill
  intro X
  refine noE ?_
  have hbad := hw.bad
  have gp : decide ((0 : Int) < p) = true := ltI_t (by omega)
  have e4 : (⟨#[c]⟩ : Str).length = 1 := rfl
  have e5 : (Str.ofString ")").length = 1 := by decide +kernel
  have e6 : (Str.ofString "x)").length = 2 := by decide +kernel
  (with_unfolding_all conv in (talkTail _) => whnf)
  (with_unfolding_all conv in (occs := *) (fnScope _ _) => all_goals whnf)
  k_steps
  unfold Hold
  refine try_bad (qs := qs) hbad hl hI hH lLe lHe XB TB (by assumption) (by assumption) (by assumption) (by assumption) (by assumption) hk hdp hun (Fr.ps (by k_asm) (List.forall_mem_cons.mpr ⟨by with_unfolding_all rfl, List.forall_mem_cons.mpr ⟨by with_unfolding_all rfl, List.forall_mem_cons.mpr ⟨by with_unfolding_all rfl, List.forall_mem_cons.mpr ⟨by with_unfolding_all rfl, List.forall_mem_cons.mpr ⟨by with_unfolding_all rfl, List.forall_mem_cons.mpr ⟨by with_unfolding_all rfl, List.forall_mem_nil _⟩⟩⟩⟩⟩⟩)) (KStt.news_of (by assumption) (fun q hq => by (repeat (first | exact hq | refine List.mem_cons_of_mem _ ?_)))) no off ?ret
  case ret =>
    intro g' h' tk' vQ' nQ' qs' t' I' P' H' G' F' N'
    (try dsimp only)
    k_steps
    refine ret _ _ _ _ _ _ _ _ I' P' H' G' F' (fun z hs => ?_) N'
    obtain ⟨z1, z2, z3, z4, z5, z6, z7, z8, z9, z10, z11⟩ := talkZ hs
    simp only [kstB, tryPs, tailPs, if_neg z1, if_neg z2, if_neg z3, if_neg z4, if_neg z5, if_neg z6, if_neg z7, if_neg z8, if_neg z9, if_neg z10, if_neg z11]
    by_cases y1 : z = Str.ofString "held"
    · simp only [if_pos y1]
    · by_cases y2 : z = Str.ofString "log"
      · simp only [if_neg y1, if_pos y2]
      · by_cases y3 : z = Str.ofString "free"
        · simp only [if_neg y1, if_neg y2, if_pos y3]
        · simp only [if_neg y1, if_neg y2, if_neg y3]
end
end
section
open PySem PySem.W PyProof.Rows PySem.Calls PySem.Spec
set_option maxRecDepth 100000
set_option maxHeartbeats 0
theorem lines_W52_1 : True := by
  k_with_none
  k_with "eval Constant int" => (refine flat_int ?_)
  k_with "eval Constant str" => (refine flat_str ?_)
  k_with "call builtin:issubclass" => (k_here; k_dflt (refine' issub_call ?kqk1 ?_; (case kqk1 => exact News.get (by k_asm) (by k_mem)); k_whole); intro tk)
  k_with "callWith" => (k_here; (with_reducible show wpAny _ _ (callWith _ (Value.builtin _) (_ :: _) _ _) _ _ _); refine callWith_method1 ?_)
  trivial
section
variable {w : World} {mean : ExcName → Option Value} {mg mb : Str → Option Value} {dp un : Nat} {gd : Option (List Code)} {cn : Str} {cs : Scope} {a : Addr} {ccd : Value} {cl : List (Str × Addr)} {outer : List Env} {A₀ : Around} {base h₀ : Heap} {L : Addr} {m : Str → Option Value} {news : List (Addr × Obj)} {s : Shared} {Q E : Value → Shared → Prop}
theorem lines_W52_2 : True := by
  k_with "exec Try" => (k_here; (refine hold_it ?_))
  k_with "call ref" => (k_here; (with_reducible show wpAny _ _ (call (Value.ref 201) _) _ _ _); k_dflt (refine' join_spec ?kqh1 ?kqh2 ?kqh3 ?kqk1 ?kqk2 ?kqk3 ?kqk4 ?kqk5 ?kqkK ?kqkd ?kqku ?_; (case kqh1 => omega); (case kqh2 => omega); (case kqh3 => omega); (case kqk1 => k_asm); (case kqk2 => k_asm); (case kqk3 => k_asm); (case kqk4 => k_asm); (case kqk5 => k_asm); (case kqkK => first | exact rfl | assumption); (case kqkd => ktr_room); (case kqku => ktr_units); k_whole); intro t' h' tk' F' N'; (try k_sweep))
  k_with "call ref" => (k_here; (with_reducible show wpAny _ _ (call (Value.ref 215) _) _ _ _); k_dflt (refine' norm_as ?kqh1 ?kqk1 ?kqk2 ?kqk3 ?kqk4 ?kqk5 ?kqkK ?kqkd ?kqku ?_; (case kqh1 => assumption); (case kqk1 => k_asm); (case kqk2 => k_asm); (case kqk3 => k_asm); (case kqk4 => k_asm); (case kqk5 => k_asm); (case kqkK => first | exact rfl | assumption); (case kqkd => ktr_room); (case kqku => ktr_units); k_whole); intro t' h' tk' F' N'; (try k_sweep))
  k_with "call ref" => (k_here; (with_reducible show wpAny _ _ (call (Value.ref 229) _) _ _ _); k_dflt (refine' answer_spec ?kqh1 ?kqh2 ?kqh3 ?kqk1 ?kqk2 ?kqk3 ?kqk4 ?kqk5 ?kqkK ?kqkd ?kqku ?_; (case kqh1 => omega); (case kqh2 => omega); (case kqh3 => omega); (case kqk1 => k_asm); (case kqk2 => k_asm); (case kqk3 => k_asm); (case kqk4 => k_asm); (case kqk5 => k_asm); (case kqkK => first | exact rfl | assumption); (case kqkd => ktr_room); (case kqku => ktr_units); k_whole); intro t' h' tk' F' N'; (try k_sweep))
  k_with "call ref" => (k_here; (with_reducible show wpAny _ _ (call (Value.ref 65) _) _ _ _); k_dflt (refine' p229ok_at ?kqho ?kqh1 ?kqh2 ?kqk1 ?kqk2 ?kqk3 ?kqk4 ?kqk5 ?kqkK ?kqkd ?kqku ?kqkm ?_; (case kqho => assumption); (case kqh1 => assumption); (case kqh2 => assumption); (case kqk1 => k_asm); (case kqk2 => k_asm); (case kqk3 => k_asm); (case kqk4 => k_asm); (case kqk5 => k_asm); (case kqkK => first | exact rfl | assumption); (case kqkd => ktr_room); (case kqku => ktr_units); (case kqkm => k_mem); k_whole); intro r' t' h' tk' D' F' N'; (replace D' := allNeA_of D'); (simp only [AllNeA, and_true] at D'); (repeat (obtain ⟨_, D'⟩ := D')); (try k_sweep))
  k_with "call ref" => (k_here; (with_reducible show wpAny _ _ (call (Value.ref 79) _) _ _ _); k_dflt (refine' push_K ?kqh1 ?kqh2 ?kqh3 ?kqk1 ?kqk2 ?kqk3 ?kqk4 ?kqkU ?kqk5 ?kqkK ?kqkd ?kqku ?_; (case kqk1 => k_asm); (case kqk2 => k_asm); (case kqk3 => k_asm); (case kqk4 => k_asm); (case kqkU => k_updF); (case kqh2 => assumption); (case kqh1 => omega); (case kqh3 => assumption); (case kqk5 => k_asm); (case kqkK => first | exact rfl | assumption); (case kqkd => ktr_room); (case kqku => ktr_units); k_whole); intro vs' n' ns' h' tk' I' P' H' F' N'; (try k_sweep))
  k_with "call ref" => (k_here; (with_reducible show wpAny _ _ (call (Value.ref 86) _) _ _ _); k_dflt (refine' pop_R ?kqh1 ?kqh2 ?kqh3 ?kqhR ?kqk1 ?kqk2 ?kqk3 ?kqk4 ?kqkU ?kqk5 ?kqkK ?kqkd ?kqku ?_; (case kqk1 => k_asm); (case kqk2 => k_asm); (case kqk3 => k_asm); (case kqk4 => k_asm); (case kqkU => k_updF); (case kqh2 => assumption); (case kqh1 => omega); (case kqh3 => assumption); (case kqk5 => k_asm); (case kqkK => first | exact rfl | assumption); (case kqkd => ktr_room); (case kqku => ktr_units); (case kqhR => assumption); k_whole); intro vs' n' ns' r' t' h' tk' I' P' H' M' R1' R2' G' F' N'; (try k_sweep))
  k_with "call ref" => (k_here; (with_reducible show wpAny _ _ (call (Value.ref 93) _) _ _ _); k_dflt (refine' pushpop_R ?kqh1 ?kqh2 ?kqh3 ?kqhR ?kqk1 ?kqk2 ?kqk3 ?kqk4 ?kqkU ?kqk5 ?kqkK ?kqkd ?kqku ?_; (case kqk1 => k_asm); (case kqk2 => k_asm); (case kqk3 => k_asm); (case kqk4 => k_asm); (case kqkU => k_updF); (case kqh2 => assumption); (case kqh1 => omega); (case kqh3 => assumption); (case kqk5 => k_asm); (case kqkK => first | exact rfl | assumption); (case kqkd => ktr_room); (case kqku => ktr_units); (case kqhR => assumption); k_whole); intro vs' n' ns' r' t' h' tk' I' P' H' M' R1' R2' F' N'; (try k_sweep))
  k_with "binaryOp Mod int int" => (k_here; k_dflt (refine' s_mod ?kqf ?kqb ?_; (case kqf => assumption); (case kqb => omega); k_whole); intro t' k')
  k_with "binaryOp FloorDiv int int" => (k_here; k_dflt (refine' s_div ?kqf ?kqb ?kqc ?_; (case kqf => assumption); (case kqb => omega); (case kqc => omega); k_whole); intro t' k')
  k_with "subscriptTail Name BinOp ref int" => (k_here; k_dflt (refine' l_itemAs ?kqh ?kqn ?kqm ?_ ?kqk6; (case kqn => k_asm); (case kqm => k_mem); (case kqh => assumption); (case kqk6 => with_unfolding_all rfl); k_whole))
  k_with "subscriptTail Constant" => (k_here; k_dflt (refine' s_item ?kqz0 ?kqz1 ?kqz2 ?kqz ?_ ?kqy1 ?kqy2; (case kqz => assumption); (case kqz0 => omega); (case kqz1 => omega); (case kqz2 => omega); (case kqy1 => with_unfolding_all rfl); (case kqy2 => (intro _; with_unfolding_all rfl)); k_whole); intro t' k')
  k_with "subscriptTail Call Constant ref int" => (k_here; k_dflt (refine' l_tup0 ?kqn ?kqm ?_ ?kqk6; (case kqn => k_asm); (case kqm => k_mem); (case kqk6 => with_unfolding_all rfl); k_whole))
  k_with "compareOp NotEq ref ref" => (k_here; k_dflt (refine' l_neNil ?kqn ?kqm ?kqm2 ?kqhh ?kqht ?kqho ?kqhu ?kqhb ?_; (case kqn => k_asm); (case kqm => k_mem); (case kqm2 => k_mem); (case kqhh => assumption); (case kqht => (intro p hp; k_mem)); (case kqho => assumption); (case kqhb => assumption); (case kqhu => ktr_units); k_whole))
  k_with "compareOp NotEq ref ref" => (k_here; k_dflt (refine' l_neInts ?kqn ?kqm ?kqm2 ?kqhI ?kqhu ?kqhb ?_; (case kqn => k_asm); (case kqm => k_mem); (case kqm2 => k_mem); (case kqhI => assumption); (case kqhb => assumption); (case kqhu => ktr_units); k_whole))
  k_with "call builtin:len" => (k_here; k_dflt (refine' l_len ?kqn ?kqm ?kqz ?_; (case kqn => k_asm); (case kqm => k_mem); (case kqz => omega); k_whole); intro t' k')
  k_with "call builtin:list.append" => (k_here; k_dflt (refine' l_append ?kqk1 ?kqk2 ?kqk3 ?kqz ?_; (case kqk1 => k_asm); (case kqk2 => k_asm); (case kqk3 => k_upd); (case kqz => first | (simp only [List.length_append, List.length_cons, List.length_nil]; omega) | omega); k_whole); intro h' F' N'; (try k_sweep))
  k_with "call builtin:list.pop" => (k_here; k_dflt (refine' l_popAt ?kqk1 ?kqk2 ?kqe ?kqk3 ?kqz ?_; (case kqk1 => k_asm); (case kqk2 => k_asm); (case kqk3 => k_upd); (case kqe => assumption); (case kqz => omega); k_whole); intro h' F' N'; (try k_sweep))
  k_with "compareOp Eq int int" => (k_here; refine' s_eqI ?kqf ?_; (case kqf => with_reducible assumption); k_whole)
  k_with "compareOp Lt int int" => (k_here; refine' s_ltI ?kqf ?_; (case kqf => with_reducible assumption); k_whole)
  k_with "compareOp NotEq int int" => (k_here; refine' s_neI ?kqf ?_; (case kqf => with_reducible assumption); k_whole)
  k_with "compareOp Gt int int" => (k_here; refine' s_gtI ?kqf ?_; (case kqf => with_reducible assumption); k_whole)
  k_with "binaryOp Add str str" => (k_here; k_dflt (refine' s_addF ?kqhx ?kqhy ?kqhz ?_; (case kqhx => omega); (case kqhy => omega); (case kqhz => omega); k_whole))
  k_with "binaryOp Mult str int" => (k_here; k_dflt (first | ((with_reducible show wpAny _ _ (binaryOp _ _ (Value.int 3 _)) _ _ _); refine' s_mul3F ?_) | ((with_reducible show wpAny _ _ (binaryOp _ _ (Value.int 4 _)) _ _ _); refine' s_mul4F ?_)))
  k_with "call builtin:str.replace" => (k_here; k_dflt (refine' s_replaceW ?kqhr ?kqhu ?kqhv ?kqhuv ?_; (case kqhr => assumption); (case kqhu => (refine neN ?_; (try dsimp only); omega)); (case kqhv => (refine neN ?_; (try dsimp only); omega)); (case kqhuv => (refine neN ?_; (try dsimp only); omega)); k_whole); intro t' k')
  k_with "subscriptTail Name Constant ref int" => (k_here; k_dflt (first | ((with_reducible show wpAny _ _ (subscriptTail _ _ _ (Value.int 0 _)) _ _ _); refine' l_tup0 ?kqn ?kqm ?_ ?kqk6; (case kqn => k_asm); (case kqm => k_mem); (case kqk6 => with_unfolding_all rfl)) | ((with_reducible show wpAny _ _ (subscriptTail _ _ _ (Value.int 1 _)) _ _ _); refine' l_tup1 ?kqn ?kqm ?_ ?kqk6; (case kqn => k_asm); (case kqm => k_mem); (case kqk6 => with_unfolding_all rfl))))
  trivial
theorem tail_52 {g₀ g h : Heap} {L₂ lq lh ll : Addr} {nm X0 : Str} {c : Nat} {tk5 tv tm tn tp : Tok} {p v v3 : Int} {mz : Str → Option Value} {qs : List Int} {vH vQ vL : List Value} {nH nQ nL tk : Nat} {rest : List (Addr × Obj)} {QF : Flow → Shared → Prop} (hw : WrongIs (pre229 c p ++ nm) (⟨#[c]⟩ ++ Str.ofString ")") (⟨#[c]⟩ ++ Str.ofString "x)") X0) (hp1 : 1024 ≤ p) (hp2 : p < 1028) (lnm : nm.length ≤ 500) (h3 : v.fdiv 3 = v3) (h4 : v3.fmod 3 = 2) (hl : qs.length ≤ 3) (hI : IntsAre vQ qs) (hH : HeapOk qs) (lLe : vL.length ≤ 1000) (lHe : vH.length ≤ 1000)
   (XB : (hd.heap_39 w.params).In base) (TB : Top hd.view_39 (looseW hd.view_39 []) mean mg mb base) (B : Below (ktrTop dp un gd cn cs L a ccd [] []) base [envOf cn cs L a ccd] g) (X : (hd.heap_39 w.params).In g) (T : Top hd.view_39 (looseW hd.view_39 []) mean mg mb g) (D : KtsDicts ([envOf cn cs L a ccd].filterMap (·.frame)) g) (K : KtsTurn ([envOf cn cs L a ccd].filterMap (·.frame)) g₀ g) (hk : cs.kind = .function) (hdp : dp + 6 < recursionLimit) (hun : un + 100 < cLine)
   (F : Fr g L₂ h (kstB mz (tailPs lq lh ll c nm v p tk5 tv tm tn tp))) (N : News g L₂ h ((ll, listOf vL.toArray nL) :: (lh, listOf vH.toArray nH) :: (lq, listOf vQ.toArray nQ) :: rest))
   (no : @Ne Nat lh ll ∧ @Ne Nat lq ll ∧ @Ne Nat lq lh) (off : OwnOff rest [ll, lh, lq])
   (ret : ∀ g' h' tk' m' vQ' nQ' qs' t', IntsAre vQ' qs' → qs'.Perm (p :: qs) → HeapOk qs' → TalkG w mean mg mb (ktrTop dp un gd cn cs L a ccd [] []) base g₀ [envOf cn cs L a ccd] g' → Fr g' L₂ h' m' → (∀ z, talkStored.contains z = false → m' z = kstB mz (tailPs lq lh ll c nm v p tk5 tv tm tn tp) z) →
     News g' L₂ h' ((ll, listOf (vL ++ [Value.str (Str.ofString "no mark") t']).toArray (nL + 1)) :: (lh, listOf vH.toArray nH) :: (lq, listOf vQ'.toArray nQ') :: rest) → QF .next { s with heap := h', toks := tk' }) :
   wpAny (model Challenge.rw_pd0171_01.row.prog w) ((ktrTop dp un gd cn cs L a ccd [] []).deeper (envOf (Str.ofString "_law_talk") (fnScope w.params 236) L₂ 236 (.ref 235))) (execs (talkTail w.params) (envOf (Str.ofString "_law_talk") (fnScope w.params 236) L₂ 236 (.ref 235))) QF E { s with heap := h, toks := tk } := by
  revert X
  k_fill
  intro X
  refine noE ?_
  have hbad := hw.bad
  have gp : decide ((0 : Int) < p) = true := ltI_t (by omega)
  have e4 : (⟨#[c]⟩ : Str).length = 1 := rfl
  have e5 : (Str.ofString ")").length = 1 := by decide +kernel
  have e6 : (Str.ofString "x)").length = 2 := by decide +kernel
  (with_unfolding_all conv in (talkTail _) => whnf)
  (with_unfolding_all conv in (occs := *) (fnScope _ _) => all_goals whnf)
  k_steps
  unfold Hold
  refine try_bad (qs := qs) hbad hl hI hH lLe lHe XB TB (by assumption) (by assumption) (by assumption) (by assumption) (by assumption) hk hdp hun (Fr.ps (by k_asm) (List.forall_mem_cons.mpr ⟨by with_unfolding_all rfl, List.forall_mem_cons.mpr ⟨by with_unfolding_all rfl, List.forall_mem_cons.mpr ⟨by with_unfolding_all rfl, List.forall_mem_cons.mpr ⟨by with_unfolding_all rfl, List.forall_mem_cons.mpr ⟨by with_unfolding_all rfl, List.forall_mem_cons.mpr ⟨by with_unfolding_all rfl, List.forall_mem_nil _⟩⟩⟩⟩⟩⟩)) (KStt.news_of (by assumption) (fun q hq => by (repeat (first | exact hq | refine List.mem_cons_of_mem _ ?_)))) no off ?ret
  case ret =>
    intro g' h' tk' vQ' nQ' qs' t' I' P' H' G' F' N'
    (try dsimp only)
    k_steps
    refine ret _ _ _ _ _ _ _ _ I' P' H' G' F' (fun z hs => ?_) N'
    obtain ⟨z1, z2, z3, z4, z5, z6, z7, z8, z9, z10, z11⟩ := talkZ hs
    simp only [kstB, tryPs, tailPs, if_neg z1, if_neg z2, if_neg z3, if_neg z4, if_neg z5, if_neg z6, if_neg z7, if_neg z8, if_neg z9, if_neg z10, if_neg z11]
    by_cases y1 : z = Str.ofString "held"
    · simp only [if_pos y1]
    · by_cases y2 : z = Str.ofString "log"
      · simp only [if_neg y1, if_pos y2]
      · by_cases y3 : z = Str.ofString "free"
        · simp only [if_neg y1, if_neg y2, if_pos y3]
        · simp only [if_neg y1, if_neg y2, if_neg y3]
end
end
section
open PySem PySem.W PyProof.Rows PySem.Calls PySem.Spec
set_option maxRecDepth 100000
set_option maxHeartbeats 0
theorem lines_W5x_1 : True := by
  k_with_none
  k_with "eval Constant int" => (refine flat_int ?_)
  k_with "eval Constant str" => (refine flat_str ?_)
  k_with "call builtin:issubclass" => (k_here; k_dflt (refine' issub_call ?kqk1 ?_; (case kqk1 => exact News.get (by k_asm) (by k_mem)); k_whole); intro tk)
  k_with "callWith" => (k_here; (with_reducible show wpAny _ _ (callWith _ (Value.builtin _) (_ :: _) _ _) _ _ _); refine callWith_method1 ?_)
  trivial
section
variable {w : World} {mean : ExcName → Option Value} {mg mb : Str → Option Value} {dp un : Nat} {gd : Option (List Code)} {cn : Str} {cs : Scope} {a : Addr} {ccd : Value} {cl : List (Str × Addr)} {outer : List Env} {A₀ : Around} {base h₀ : Heap} {L : Addr} {m : Str → Option Value} {news : List (Addr × Obj)} {s : Shared} {Q E : Value → Shared → Prop}
theorem tail_5 {g₀ g h : Heap} {L₂ lq lh ll : Addr} {nm : Str} {c : Nat} {tk5 tv tm tn tp : Tok} {p v v3 : Int} {mz : Str → Option Value} {qs : List Int} {vH vQ vL : List Value} {nH nQ nL tk : Nat} {rest : List (Addr × Obj)} {QF : Flow → Shared → Prop} (hw : Wrongs c nm) (hp1 : 1024 ≤ p) (hp2 : p < 1028) (lnm : nm.length ≤ 500) (h3 : v.fdiv 3 = v3) (hf : v3.fmod 3 = 0 ∨ v3.fmod 3 = 1 ∨ v3.fmod 3 = 2) (hl : qs.length ≤ 3) (hI : IntsAre vQ qs) (hH : HeapOk qs) (lLe : vL.length ≤ 1000) (lHe : vH.length ≤ 1000)
   (XB : (hd.heap_39 w.params).In base) (TB : Top hd.view_39 (looseW hd.view_39 []) mean mg mb base) (B : Below (ktrTop dp un gd cn cs L a ccd [] []) base [envOf cn cs L a ccd] g) (X : (hd.heap_39 w.params).In g) (T : Top hd.view_39 (looseW hd.view_39 []) mean mg mb g) (D : KtsDicts ([envOf cn cs L a ccd].filterMap (·.frame)) g) (K : KtsTurn ([envOf cn cs L a ccd].filterMap (·.frame)) g₀ g) (hk : cs.kind = .function) (hdp : dp + 6 < recursionLimit) (hun : un + 100 < cLine)
   (F : Fr g L₂ h (kstB mz (tailPs lq lh ll c nm v p tk5 tv tm tn tp))) (N : News g L₂ h ((ll, listOf vL.toArray nL) :: (lh, listOf vH.toArray nH) :: (lq, listOf vQ.toArray nQ) :: rest))
   (no : @Ne Nat lh ll ∧ @Ne Nat lq ll ∧ @Ne Nat lq lh) (off : OwnOff rest [ll, lh, lq])
   (ret : ∀ g' h' tk' m' vQ' nQ' qs' t', IntsAre vQ' qs' → qs'.Perm (p :: qs) → HeapOk qs' → TalkG w mean mg mb (ktrTop dp un gd cn cs L a ccd [] []) base g₀ [envOf cn cs L a ccd] g' → Fr g' L₂ h' m' → (∀ z, talkStored.contains z = false → m' z = kstB mz (tailPs lq lh ll c nm v p tk5 tv tm tn tp) z) →
     News g' L₂ h' ((ll, listOf (vL ++ [Value.str (Str.ofString "no mark") t']).toArray (nL + 1)) :: (lh, listOf vH.toArray nH) :: (lq, listOf vQ'.toArray nQ') :: rest) → QF .next { s with heap := h', toks := tk' }) :
   wpAny (model Challenge.rw_pd0171_01.row.prog w) ((ktrTop dp un gd cn cs L a ccd [] []).deeper (envOf (Str.ofString "_law_talk") (fnScope w.params 236) L₂ 236 (.ref 235))) (execs (talkTail w.params) (envOf (Str.ofString "_law_talk") (fnScope w.params 236) L₂ 236 (.ref 235))) QF E { s with heap := h, toks := tk } := by
  rcases hf with hf | hf | hf
  · obtain ⟨X0, hX⟩ := hw.h0 _ hp1 hp2
    exact tail_50 hX hp1 hp2 lnm h3 hf hl hI hH lLe lHe XB TB B X T D K hk hdp hun F N no off ret
  · obtain ⟨X0, hX⟩ := hw.h1 _ hp1 hp2
    exact tail_51 hX hp1 hp2 lnm h3 hf hl hI hH lLe lHe XB TB B X T D K hk hdp hun F N no off ret
  · obtain ⟨X0, hX⟩ := hw.h2 _ hp1 hp2
    exact tail_52 hX hp1 hp2 lnm h3 hf hl hI hH lLe lHe XB TB B X T D K hk hdp hun F N no off ret
end
end
section
open PySem PySem.W PyProof.Rows PySem.Calls PySem.Spec
set_option maxRecDepth 100000
set_option maxHeartbeats 0
theorem lines_C12t5a_1 : True := by
  k_with_none
  k_with "eval Constant int" => (refine flat_int ?_)
  k_with "eval Constant str" => (refine flat_str ?_)
  k_with "call builtin:issubclass" => (k_here; k_dflt (refine' issub_call ?kqk1 ?_; (case kqk1 => exact News.get (by k_asm) (by k_mem)); k_whole); intro tk)
  k_with "callWith" => (k_here; (with_reducible show wpAny _ _ (callWith _ (Value.builtin _) (_ :: _) _ _) _ _ _); refine callWith_method1 ?_)
  trivial
section
variable {w : World} {mean : ExcName → Option Value} {mg mb : Str → Option Value} {dp un : Nat} {gd : Option (List Code)} {cn : Str} {cs : Scope} {a : Addr} {ccd : Value} {cl : List (Str × Addr)} {outer : List Env} {A₀ : Around} {base h₀ : Heap} {L : Addr} {m : Str → Option Value} {news : List (Addr × Obj)} {s : Shared} {Q E : Value → Shared → Prop}
theorem lines_C12t5a_2 : True := by
  k_with "exec Try" => (k_here; (refine hold_it ?_))
  k_with "call ref" => (k_here; (with_reducible show wpAny _ _ (call (Value.ref 201) _) _ _ _); k_dflt (refine' join_spec ?kqh1 ?kqh2 ?kqh3 ?kqk1 ?kqk2 ?kqk3 ?kqk4 ?kqk5 ?kqkK ?kqkd ?kqku ?_; (case kqh1 => omega); (case kqh2 => omega); (case kqh3 => omega); (case kqk1 => k_asm); (case kqk2 => k_asm); (case kqk3 => k_asm); (case kqk4 => k_asm); (case kqk5 => k_asm); (case kqkK => first | exact rfl | assumption); (case kqkd => ktr_room); (case kqku => ktr_units); k_whole); intro t' h' tk' F' N'; (try k_sweep))
  k_with "call ref" => (k_here; (with_reducible show wpAny _ _ (call (Value.ref 215) _) _ _ _); k_dflt (refine' norm_as ?kqh1 ?kqk1 ?kqk2 ?kqk3 ?kqk4 ?kqk5 ?kqkK ?kqkd ?kqku ?_; (case kqh1 => assumption); (case kqk1 => k_asm); (case kqk2 => k_asm); (case kqk3 => k_asm); (case kqk4 => k_asm); (case kqk5 => k_asm); (case kqkK => first | exact rfl | assumption); (case kqkd => ktr_room); (case kqku => ktr_units); k_whole); intro t' h' tk' F' N'; (try k_sweep))
  k_with "call ref" => (k_here; (with_reducible show wpAny _ _ (call (Value.ref 229) _) _ _ _); k_dflt (refine' answer_spec ?kqh1 ?kqh2 ?kqh3 ?kqk1 ?kqk2 ?kqk3 ?kqk4 ?kqk5 ?kqkK ?kqkd ?kqku ?_; (case kqh1 => omega); (case kqh2 => omega); (case kqh3 => omega); (case kqk1 => k_asm); (case kqk2 => k_asm); (case kqk3 => k_asm); (case kqk4 => k_asm); (case kqk5 => k_asm); (case kqkK => first | exact rfl | assumption); (case kqkd => ktr_room); (case kqku => ktr_units); k_whole); intro t' h' tk' F' N'; (try k_sweep))
  k_with "call ref" => (k_here; (with_reducible show wpAny _ _ (call (Value.ref 65) _) _ _ _); k_dflt (refine' p229ok_at ?kqho ?kqh1 ?kqh2 ?kqk1 ?kqk2 ?kqk3 ?kqk4 ?kqk5 ?kqkK ?kqkd ?kqku ?kqkm ?_; (case kqho => assumption); (case kqh1 => assumption); (case kqh2 => assumption); (case kqk1 => k_asm); (case kqk2 => k_asm); (case kqk3 => k_asm); (case kqk4 => k_asm); (case kqk5 => k_asm); (case kqkK => first | exact rfl | assumption); (case kqkd => ktr_room); (case kqku => ktr_units); (case kqkm => k_mem); k_whole); intro r' t' h' tk' D' F' N'; (replace D' := allNeA_of D'); (simp only [AllNeA, and_true] at D'); (repeat (obtain ⟨_, D'⟩ := D')); (try k_sweep))
  k_with "call ref" => (k_here; (with_reducible show wpAny _ _ (call (Value.ref 79) _) _ _ _); k_dflt (refine' push_K ?kqh1 ?kqh2 ?kqh3 ?kqk1 ?kqk2 ?kqk3 ?kqk4 ?kqkU ?kqk5 ?kqkK ?kqkd ?kqku ?_; (case kqk1 => k_asm); (case kqk2 => k_asm); (case kqk3 => k_asm); (case kqk4 => k_asm); (case kqkU => k_updF); (case kqh2 => assumption); (case kqh1 => omega); (case kqh3 => assumption); (case kqk5 => k_asm); (case kqkK => first | exact rfl | assumption); (case kqkd => ktr_room); (case kqku => ktr_units); k_whole); intro vs' n' ns' h' tk' I' P' H' F' N'; (try k_sweep))
  k_with "call ref" => (k_here; (with_reducible show wpAny _ _ (call (Value.ref 86) _) _ _ _); k_dflt (refine' pop_R ?kqh1 ?kqh2 ?kqh3 ?kqhR ?kqk1 ?kqk2 ?kqk3 ?kqk4 ?kqkU ?kqk5 ?kqkK ?kqkd ?kqku ?_; (case kqk1 => k_asm); (case kqk2 => k_asm); (case kqk3 => k_asm); (case kqk4 => k_asm); (case kqkU => k_updF); (case kqh2 => assumption); (case kqh1 => omega); (case kqh3 => assumption); (case kqk5 => k_asm); (case kqkK => first | exact rfl | assumption); (case kqkd => ktr_room); (case kqku => ktr_units); (case kqhR => assumption); k_whole); intro vs' n' ns' r' t' h' tk' I' P' H' M' R1' R2' G' F' N'; (try k_sweep))
  k_with "call ref" => (k_here; (with_reducible show wpAny _ _ (call (Value.ref 93) _) _ _ _); k_dflt (refine' pushpop_R ?kqh1 ?kqh2 ?kqh3 ?kqhR ?kqk1 ?kqk2 ?kqk3 ?kqk4 ?kqkU ?kqk5 ?kqkK ?kqkd ?kqku ?_; (case kqk1 => k_asm); (case kqk2 => k_asm); (case kqk3 => k_asm); (case kqk4 => k_asm); (case kqkU => k_updF); (case kqh2 => assumption); (case kqh1 => omega); (case kqh3 => assumption); (case kqk5 => k_asm); (case kqkK => first | exact rfl | assumption); (case kqkd => ktr_room); (case kqku => ktr_units); (case kqhR => assumption); k_whole); intro vs' n' ns' r' t' h' tk' I' P' H' M' R1' R2' F' N'; (try k_sweep))
  k_with "binaryOp Mod int int" => (k_here; k_dflt (refine' s_mod ?kqf ?kqb ?_; (case kqf => assumption); (case kqb => omega); k_whole); intro t' k')
  k_with "binaryOp FloorDiv int int" => (k_here; k_dflt (refine' s_div ?kqf ?kqb ?kqc ?_; (case kqf => assumption); (case kqb => omega); (case kqc => omega); k_whole); intro t' k')
  k_with "subscriptTail Name BinOp ref int" => (k_here; k_dflt (refine' l_itemAs ?kqh ?kqn ?kqm ?_ ?kqk6; (case kqn => k_asm); (case kqm => k_mem); (case kqh => assumption); (case kqk6 => with_unfolding_all rfl); k_whole))
  k_with "subscriptTail Constant" => (k_here; k_dflt (refine' s_item ?kqz0 ?kqz1 ?kqz2 ?kqz ?_ ?kqy1 ?kqy2; (case kqz => assumption); (case kqz0 => omega); (case kqz1 => omega); (case kqz2 => omega); (case kqy1 => with_unfolding_all rfl); (case kqy2 => (intro _; with_unfolding_all rfl)); k_whole); intro t' k')
  k_with "subscriptTail Call Constant ref int" => (k_here; k_dflt (refine' l_tup0 ?kqn ?kqm ?_ ?kqk6; (case kqn => k_asm); (case kqm => k_mem); (case kqk6 => with_unfolding_all rfl); k_whole))
  k_with "compareOp NotEq ref ref" => (k_here; k_dflt (refine' l_neNil ?kqn ?kqm ?kqm2 ?kqhh ?kqht ?kqho ?kqhu ?kqhb ?_; (case kqn => k_asm); (case kqm => k_mem); (case kqm2 => k_mem); (case kqhh => assumption); (case kqht => (intro p hp; k_mem)); (case kqho => assumption); (case kqhb => assumption); (case kqhu => ktr_units); k_whole))
  k_with "compareOp NotEq ref ref" => (k_here; k_dflt (refine' l_neInts ?kqn ?kqm ?kqm2 ?kqhI ?kqhu ?kqhb ?_; (case kqn => k_asm); (case kqm => k_mem); (case kqm2 => k_mem); (case kqhI => assumption); (case kqhb => assumption); (case kqhu => ktr_units); k_whole))
  k_with "call builtin:len" => (k_here; k_dflt (refine' l_len ?kqn ?kqm ?kqz ?_; (case kqn => k_asm); (case kqm => k_mem); (case kqz => omega); k_whole); intro t' k')
  k_with "call builtin:list.append" => (k_here; k_dflt (refine' l_append ?kqk1 ?kqk2 ?kqk3 ?kqz ?_; (case kqk1 => k_asm); (case kqk2 => k_asm); (case kqk3 => k_upd); (case kqz => first | (simp only [List.length_append, List.length_cons, List.length_nil]; omega) | omega); k_whole); intro h' F' N'; (try k_sweep))
  k_with "call builtin:list.pop" => (k_here; k_dflt (refine' l_popAt ?kqk1 ?kqk2 ?kqe ?kqk3 ?kqz ?_; (case kqk1 => k_asm); (case kqk2 => k_asm); (case kqk3 => k_upd); (case kqe => assumption); (case kqz => omega); k_whole); intro h' F' N'; (try k_sweep))
  k_with "compareOp Eq int int" => (k_here; refine' s_eqI ?kqf ?_; (case kqf => with_reducible assumption); k_whole)
  k_with "compareOp Lt int int" => (k_here; refine' s_ltI ?kqf ?_; (case kqf => with_reducible assumption); k_whole)
  k_with "compareOp NotEq int int" => (k_here; refine' s_neI ?kqf ?_; (case kqf => with_reducible assumption); k_whole)
  k_with "compareOp Gt int int" => (k_here; refine' s_gtI ?kqf ?_; (case kqf => with_reducible assumption); k_whole)
  k_with "execs cons" => (k_here; (with_reducible show wpAny _ _ (execs [Stmt.If _ _ _ _, Stmt.If _ _ _ _, Stmt.Try _ _ _ _ _] _) _ _ _); (refine hold_it ?_))
  trivial
theorem talk_t5a {g₀ g h : Heap} {L₂ lq lh ll lw lf lnum It : Addr} {oI : Obj} {QF : Flow → Shared → Prop} {ns qs : List Int} {mz m₁ : Str → Option Value} {i j k3 c : Nat} {x v κ fr : Int} {wd fd : Str} {t u1 u2 u3 u4 tw tf tfr tpl : Tok} {vH vQ vL vw vf vsN : List Value} {nH nQ nL nw nf n tk : Nat} {tl : List (Addr × Obj)} {d : DS}
   (XB : (hd.heap_39 w.params).In base) (TB : Top hd.view_39 (looseW hd.view_39 []) mean mg mb base) (B : Below (ktrTop dp un gd cn cs L a ccd [] []) base [envOf cn cs L a ccd] g) (X : (hd.heap_39 w.params).In g) (T : Top hd.view_39 (looseW hd.view_39 []) mean mg mb g) (D : KtsDicts ([envOf cn cs L a ccd].filterMap (·.frame)) g) (K : KtsTurn ([envOf cn cs L a ccd].filterMap (·.frame)) g₀ g) (hk : cs.kind = .function) (hdp : dp + 6 < recursionLimit) (hun : un + 100 < cLine)
   (hxi : ns[i]? = some x) (hS : TalkS lq lh ll lw lf ns mz i m₁ qs fr tfr tpl vH vQ vL tl d) (hne : ∀ p ∈ tl, p.1 ≠ It) (hnI : ∀ p ∈ [ll, lh, lq, lw, lf, lnum], p ≠ It)
   (lo : (NeA lw ll ∧ NeA lf ll ∧ NeA lnum ll ∧ NeA lw lh ∧ NeA lf lh ∧ NeA lnum lh ∧ NeA lw lq ∧ NeA lf lq ∧ NeA lnum lq) ∧ NeA lh ll ∧ NeA lq ll ∧ NeA lq lh) (FF : TalkF i x v κ j k3 c wd fd tw tf qs vH vQ vL vw vf d) {v3 : Int} (hc : κ = 5) (hl4 : ¬ d.held.length = 4) (hqe : ¬ qs = []) (hw : Wrongs c (PP (filesGo j d.names))) (h3 : v.fdiv 3 = v3) (hf : v3.fmod 3 = 0 ∨ v3.fmod 3 = 1 ∨ v3.fmod 3 = 2)
   (F1 : Fr g L₂ h (fun y => if y = Str.ofString "name" then some (.str (PP (filesGo j d.names)) u4) else if y = Str.ofString "mark" then some (.str ⟨#[c]⟩ u3) else if y = Str.ofString "value" then some (.int v u2) else if y = Str.ofString "kind" then some (.int κ u1) else if y = Str.ofString "x" then some (.int x t) else talkFr mz m₁ lq lh ll lw lf fr tfr (PP d.names) tpl y))
   (N1 : News g L₂ h ((ll, listOf vL.toArray nL) :: (lh, listOf vH.toArray nH) :: (lq, listOf vQ.toArray nQ) :: (lw, listOf vw.toArray nw) :: (lf, listOf vf.toArray nf) :: (lnum, listOf vsN.toArray n) :: (It, oI) :: tl)) :
   wpAny (model Challenge.rw_pd0171_01.row.prog w) ((ktrTop dp un gd cn cs L a ccd [] []).deeper (envOf (Str.ofString "_law_talk") (fnScope w.params 236) L₂ 236 (.ref 235))) (execs (talkLast w.params) (envOf (Str.ofString "_law_talk") (fnScope w.params 236) L₂ 236 (.ref 235))) (GEnd (TalkG w mean mg mb (ktrTop dp un gd cn cs L a ccd [] []) base g₀ [envOf cn cs L a ccd]) L₂ lnum It oI (listOf vsN.toArray n) (TalkJ ⟨lq, lh, ll, lw, lf, lnum, vw, vf, vsN, nw, nf, n⟩ ns mz (i + 1)) s QF) E { s with heap := h, toks := tk } := by
  revert X
  k_fill
  intro X
  refine noE ?_
  obtain ⟨nI1, nI2, nI3, nI4, nI5, nI6⟩ := nI_A hnI
  obtain ⟨⟨lo1, lo2, lo3, lo4, lo5, lo6, lo7, lo8, lo9⟩, lo10, lo11, lo12⟩ := lo
  have hoff := hS.off
  have hin := hS.hin
  have hdl := hS.dl
  have hq := hS.hq
  have fo := hS.fo
  have hpo := fo.hp
  obtain ⟨hok, hk6, hkk, hv, hv2, hj, hj5, hj2, hm2, hm3, hm4, hmk, hW, hF, lH, lL, lQ, b2, b3, b4, hho, lp, lp0, lw1, lf1, nF, nFl, hOk0⟩ := FF
  have hOk : OkFor c (PP (filesGo j d.names)) := ⟨hOk0⟩
  clear hOk0
  (with_unfolding_all conv in (talkLast _) => whnf)
  (with_unfolding_all conv in (occs := *) (fnScope _ _) => all_goals whnf)
  subst hc
  have hl3 := le3_of b2 hl4
  have qm : decide ((vH.length : Int) < 4) = true := ltI_t (by omega)
  have qe : qs.isEmpty = false := by simpa using hqe
  have hqp : 0 < qs.length := List.length_pos_iff.mpr hqe
  have hrg := fo.range
  have hst := step_mark (x := x) (by omega) hl4
  clear hOk
  k_steps
  unfold Hold
  (rename (_ :: _).Perm qs => P9)
  have hl9 := P9.length_eq
  rw [List.length_cons] at hl9
  refine tail_5 (qs := _) hw (by assumption) (by assumption) nFl h3 hf ?a (by assumption) (by assumption) ?c ?d XB TB (by assumption) (by assumption) (by assumption) (by assumption) (by assumption) hk hdp hun (Fr.ps (by k_asm) (List.forall_mem_cons.mpr ⟨by with_unfolding_all rfl, List.forall_mem_cons.mpr ⟨by with_unfolding_all rfl, List.forall_mem_cons.mpr ⟨by with_unfolding_all rfl, List.forall_mem_cons.mpr ⟨by with_unfolding_all rfl, List.forall_mem_cons.mpr ⟨by with_unfolding_all rfl, List.forall_mem_cons.mpr ⟨by with_unfolding_all rfl, List.forall_mem_cons.mpr ⟨by with_unfolding_all rfl, List.forall_mem_cons.mpr ⟨by with_unfolding_all rfl, List.forall_mem_nil _⟩⟩⟩⟩⟩⟩⟩⟩)) (news_tail (by assumption)) ⟨lo10.h, lo11.h, lo12.h⟩ ?off ?ret
  case a => omega
  case c => omega
  case d => omega
  case off => exact off_7 ⟨lo1.h, lo2.h, lo3.h, lo4.h, lo5.h, lo6.h, lo7.h, lo8.h, lo9.h⟩ ⟨nI1.h, nI2.h, nI3.h, nI4.h, nI5.h, nI6.h⟩ hS.off
  case ret =>
    intro g' h' tk' m' vQ' nQ' qs' t' I' P' H' G' F' hm N'
    (try dsimp only)
    k_steps
    exact talk_fin0 (c := ⟨lq, lh, ll, lw, lf, lnum, vw, vf, vsN, nw, nf, n⟩) G' ⟨by k_asm, by k_asm, frameIs_more ⟨List.forall_mem_cons.mpr ⟨by with_unfolding_all rfl, List.forall_mem_cons.mpr ⟨by with_unfolding_all rfl, List.forall_mem_cons.mpr ⟨by with_unfolding_all rfl, List.forall_mem_cons.mpr ⟨by with_unfolding_all rfl, List.forall_mem_cons.mpr ⟨by with_unfolding_all rfl, List.forall_mem_cons.mpr ⟨by with_unfolding_all rfl, List.forall_mem_cons.mpr ⟨by with_unfolding_all rfl, List.forall_mem_nil _⟩⟩⟩⟩⟩⟩⟩, fun z hz hs => by (obtain ⟨z1, z2, z3, z4, z5, z6, z7, z8, z9, z10, z11⟩ := talkZ hs; obtain ⟨y1, y2, y3, y4, y5, y6, y7⟩ := talkY hz; simp only [kstB, tailPs, talkFr, talkPs, if_neg z1, if_neg z2, if_neg z3, if_neg z4, if_neg z5, if_neg z6, if_neg z7, if_neg z8, if_neg z9, if_neg z10, if_neg z11, if_neg y1, if_neg y2, if_neg y3, if_neg y4, if_neg y5, if_neg y6, if_neg y7, hs, Bool.false_eq_true, if_false])⟩ hm talkPs_off, hxi, hS.ed, hst.symm, by k_mem, by k_mem, by k_mem, by k_mem, hnI, (fun p hp => by k_mem), hne, hS.off⟩ (by k_mem) (by k_mem) (by k_mem) I' (free_back fo P9 P' H') hin (hdl.append (.one (.str _ _)))

end
end
section
open PySem PySem.W PyProof.Rows PySem.Calls PySem.Spec
set_option maxRecDepth 100000
set_option maxHeartbeats 0
theorem lines_C12t5b_1 : True := by
  k_with_none
  k_with "eval Constant int" => (refine flat_int ?_)
  k_with "eval Constant str" => (refine flat_str ?_)
  k_with "call builtin:issubclass" => (k_here; k_dflt (refine' issub_call ?kqk1 ?_; (case kqk1 => exact News.get (by k_asm) (by k_mem)); k_whole); intro tk)
  k_with "callWith" => (k_here; (with_reducible show wpAny _ _ (callWith _ (Value.builtin _) (_ :: _) _ _) _ _ _); refine callWith_method1 ?_)
  trivial
section
variable {w : World} {mean : ExcName → Option Value} {mg mb : Str → Option Value} {dp un : Nat} {gd : Option (List Code)} {cn : Str} {cs : Scope} {a : Addr} {ccd : Value} {cl : List (Str × Addr)} {outer : List Env} {A₀ : Around} {base h₀ : Heap} {L : Addr} {m : Str → Option Value} {news : List (Addr × Obj)} {s : Shared} {Q E : Value → Shared → Prop}
theorem lines_C12t5b_2 : True := by
  k_with "exec Try" => (k_here; (refine hold_it ?_))
  k_with "call ref" => (k_here; (with_reducible show wpAny _ _ (call (Value.ref 201) _) _ _ _); k_dflt (refine' join_spec ?kqh1 ?kqh2 ?kqh3 ?kqk1 ?kqk2 ?kqk3 ?kqk4 ?kqk5 ?kqkK ?kqkd ?kqku ?_; (case kqh1 => omega); (case kqh2 => omega); (case kqh3 => omega); (case kqk1 => k_asm); (case kqk2 => k_asm); (case kqk3 => k_asm); (case kqk4 => k_asm); (case kqk5 => k_asm); (case kqkK => first | exact rfl | assumption); (case kqkd => ktr_room); (case kqku => ktr_units); k_whole); intro t' h' tk' F' N'; (try k_sweep))
  k_with "call ref" => (k_here; (with_reducible show wpAny _ _ (call (Value.ref 215) _) _ _ _); k_dflt (refine' norm_as ?kqh1 ?kqk1 ?kqk2 ?kqk3 ?kqk4 ?kqk5 ?kqkK ?kqkd ?kqku ?_; (case kqh1 => assumption); (case kqk1 => k_asm); (case kqk2 => k_asm); (case kqk3 => k_asm); (case kqk4 => k_asm); (case kqk5 => k_asm); (case kqkK => first | exact rfl | assumption); (case kqkd => ktr_room); (case kqku => ktr_units); k_whole); intro t' h' tk' F' N'; (try k_sweep))
  k_with "call ref" => (k_here; (with_reducible show wpAny _ _ (call (Value.ref 229) _) _ _ _); k_dflt (refine' answer_spec ?kqh1 ?kqh2 ?kqh3 ?kqk1 ?kqk2 ?kqk3 ?kqk4 ?kqk5 ?kqkK ?kqkd ?kqku ?_; (case kqh1 => omega); (case kqh2 => omega); (case kqh3 => omega); (case kqk1 => k_asm); (case kqk2 => k_asm); (case kqk3 => k_asm); (case kqk4 => k_asm); (case kqk5 => k_asm); (case kqkK => first | exact rfl | assumption); (case kqkd => ktr_room); (case kqku => ktr_units); k_whole); intro t' h' tk' F' N'; (try k_sweep))
  k_with "call ref" => (k_here; (with_reducible show wpAny _ _ (call (Value.ref 65) _) _ _ _); k_dflt (refine' p229ok_at ?kqho ?kqh1 ?kqh2 ?kqk1 ?kqk2 ?kqk3 ?kqk4 ?kqk5 ?kqkK ?kqkd ?kqku ?kqkm ?_; (case kqho => assumption); (case kqh1 => assumption); (case kqh2 => assumption); (case kqk1 => k_asm); (case kqk2 => k_asm); (case kqk3 => k_asm); (case kqk4 => k_asm); (case kqk5 => k_asm); (case kqkK => first | exact rfl | assumption); (case kqkd => ktr_room); (case kqku => ktr_units); (case kqkm => k_mem); k_whole); intro r' t' h' tk' D' F' N'; (replace D' := allNeA_of D'); (simp only [AllNeA, and_true] at D'); (repeat (obtain ⟨_, D'⟩ := D')); (try k_sweep))
  k_with "call ref" => (k_here; (with_reducible show wpAny _ _ (call (Value.ref 79) _) _ _ _); k_dflt (refine' push_K ?kqh1 ?kqh2 ?kqh3 ?kqk1 ?kqk2 ?kqk3 ?kqk4 ?kqkU ?kqk5 ?kqkK ?kqkd ?kqku ?_; (case kqk1 => k_asm); (case kqk2 => k_asm); (case kqk3 => k_asm); (case kqk4 => k_asm); (case kqkU => k_updF); (case kqh2 => assumption); (case kqh1 => omega); (case kqh3 => assumption); (case kqk5 => k_asm); (case kqkK => first | exact rfl | assumption); (case kqkd => ktr_room); (case kqku => ktr_units); k_whole); intro vs' n' ns' h' tk' I' P' H' F' N'; (try k_sweep))
  k_with "call ref" => (k_here; (with_reducible show wpAny _ _ (call (Value.ref 86) _) _ _ _); k_dflt (refine' pop_R ?kqh1 ?kqh2 ?kqh3 ?kqhR ?kqk1 ?kqk2 ?kqk3 ?kqk4 ?kqkU ?kqk5 ?kqkK ?kqkd ?kqku ?_; (case kqk1 => k_asm); (case kqk2 => k_asm); (case kqk3 => k_asm); (case kqk4 => k_asm); (case kqkU => k_updF); (case kqh2 => assumption); (case kqh1 => omega); (case kqh3 => assumption); (case kqk5 => k_asm); (case kqkK => first | exact rfl | assumption); (case kqkd => ktr_room); (case kqku => ktr_units); (case kqhR => assumption); k_whole); intro vs' n' ns' r' t' h' tk' I' P' H' M' R1' R2' G' F' N'; (try k_sweep))
  k_with "call ref" => (k_here; (with_reducible show wpAny _ _ (call (Value.ref 93) _) _ _ _); k_dflt (refine' pushpop_R ?kqh1 ?kqh2 ?kqh3 ?kqhR ?kqk1 ?kqk2 ?kqk3 ?kqk4 ?kqkU ?kqk5 ?kqkK ?kqkd ?kqku ?_; (case kqk1 => k_asm); (case kqk2 => k_asm); (case kqk3 => k_asm); (case kqk4 => k_asm); (case kqkU => k_updF); (case kqh2 => assumption); (case kqh1 => omega); (case kqh3 => assumption); (case kqk5 => k_asm); (case kqkK => first | exact rfl | assumption); (case kqkd => ktr_room); (case kqku => ktr_units); (case kqhR => assumption); k_whole); intro vs' n' ns' r' t' h' tk' I' P' H' M' R1' R2' F' N'; (try k_sweep))
  k_with "binaryOp Mod int int" => (k_here; k_dflt (refine' s_mod ?kqf ?kqb ?_; (case kqf => assumption); (case kqb => omega); k_whole); intro t' k')
  k_with "binaryOp FloorDiv int int" => (k_here; k_dflt (refine' s_div ?kqf ?kqb ?kqc ?_; (case kqf => assumption); (case kqb => omega); (case kqc => omega); k_whole); intro t' k')
  k_with "subscriptTail Name BinOp ref int" => (k_here; k_dflt (refine' l_itemAs ?kqh ?kqn ?kqm ?_ ?kqk6; (case kqn => k_asm); (case kqm => k_mem); (case kqh => assumption); (case kqk6 => with_unfolding_all rfl); k_whole))
  k_with "subscriptTail Constant" => (k_here; k_dflt (refine' s_item ?kqz0 ?kqz1 ?kqz2 ?kqz ?_ ?kqy1 ?kqy2; (case kqz => assumption); (case kqz0 => omega); (case kqz1 => omega); (case kqz2 => omega); (case kqy1 => with_unfolding_all rfl); (case kqy2 => (intro _; with_unfolding_all rfl)); k_whole); intro t' k')
  k_with "subscriptTail Call Constant ref int" => (k_here; k_dflt (refine' l_tup0 ?kqn ?kqm ?_ ?kqk6; (case kqn => k_asm); (case kqm => k_mem); (case kqk6 => with_unfolding_all rfl); k_whole))
  k_with "compareOp NotEq ref ref" => (k_here; k_dflt (refine' l_neNil ?kqn ?kqm ?kqm2 ?kqhh ?kqht ?kqho ?kqhu ?kqhb ?_; (case kqn => k_asm); (case kqm => k_mem); (case kqm2 => k_mem); (case kqhh => assumption); (case kqht => (intro p hp; k_mem)); (case kqho => assumption); (case kqhb => assumption); (case kqhu => ktr_units); k_whole))
  k_with "compareOp NotEq ref ref" => (k_here; k_dflt (refine' l_neInts ?kqn ?kqm ?kqm2 ?kqhI ?kqhu ?kqhb ?_; (case kqn => k_asm); (case kqm => k_mem); (case kqm2 => k_mem); (case kqhI => assumption); (case kqhb => assumption); (case kqhu => ktr_units); k_whole))
  k_with "call builtin:len" => (k_here; k_dflt (refine' l_len ?kqn ?kqm ?kqz ?_; (case kqn => k_asm); (case kqm => k_mem); (case kqz => omega); k_whole); intro t' k')
  k_with "call builtin:list.append" => (k_here; k_dflt (refine' l_append ?kqk1 ?kqk2 ?kqk3 ?kqz ?_; (case kqk1 => k_asm); (case kqk2 => k_asm); (case kqk3 => k_upd); (case kqz => first | (simp only [List.length_append, List.length_cons, List.length_nil]; omega) | omega); k_whole); intro h' F' N'; (try k_sweep))
  k_with "call builtin:list.pop" => (k_here; k_dflt (refine' l_popAt ?kqk1 ?kqk2 ?kqe ?kqk3 ?kqz ?_; (case kqk1 => k_asm); (case kqk2 => k_asm); (case kqk3 => k_upd); (case kqe => assumption); (case kqz => omega); k_whole); intro h' F' N'; (try k_sweep))
  k_with "compareOp Eq int int" => (k_here; refine' s_eqI ?kqf ?_; (case kqf => with_reducible assumption); k_whole)
  k_with "compareOp Lt int int" => (k_here; refine' s_ltI ?kqf ?_; (case kqf => with_reducible assumption); k_whole)
  k_with "compareOp NotEq int int" => (k_here; refine' s_neI ?kqf ?_; (case kqf => with_reducible assumption); k_whole)
  k_with "compareOp Gt int int" => (k_here; refine' s_gtI ?kqf ?_; (case kqf => with_reducible assumption); k_whole)
  k_with "execs cons" => (k_here; (with_reducible show wpAny _ _ (execs [Stmt.If _ _ _ _, Stmt.If _ _ _ _, Stmt.Try _ _ _ _ _] _) _ _ _); (refine hold_it ?_))
  trivial
theorem talk_t5b {g₀ g h : Heap} {L₂ lq lh ll lw lf lnum It : Addr} {oI : Obj} {QF : Flow → Shared → Prop} {ns qs : List Int} {mz m₁ : Str → Option Value} {i j k3 c : Nat} {x v κ fr : Int} {wd fd : Str} {t u1 u2 u3 u4 tw tf tfr tpl : Tok} {vH vQ vL vw vf vsN : List Value} {nH nQ nL nw nf n tk : Nat} {tl : List (Addr × Obj)} {d : DS}
   (XB : (hd.heap_39 w.params).In base) (TB : Top hd.view_39 (looseW hd.view_39 []) mean mg mb base) (B : Below (ktrTop dp un gd cn cs L a ccd [] []) base [envOf cn cs L a ccd] g) (X : (hd.heap_39 w.params).In g) (T : Top hd.view_39 (looseW hd.view_39 []) mean mg mb g) (D : KtsDicts ([envOf cn cs L a ccd].filterMap (·.frame)) g) (K : KtsTurn ([envOf cn cs L a ccd].filterMap (·.frame)) g₀ g) (hk : cs.kind = .function) (hdp : dp + 6 < recursionLimit) (hun : un + 100 < cLine)
   (hxi : ns[i]? = some x) (hS : TalkS lq lh ll lw lf ns mz i m₁ qs fr tfr tpl vH vQ vL tl d) (hne : ∀ p ∈ tl, p.1 ≠ It) (hnI : ∀ p ∈ [ll, lh, lq, lw, lf, lnum], p ≠ It)
   (lo : (NeA lw ll ∧ NeA lf ll ∧ NeA lnum ll ∧ NeA lw lh ∧ NeA lf lh ∧ NeA lnum lh ∧ NeA lw lq ∧ NeA lf lq ∧ NeA lnum lq) ∧ NeA lh ll ∧ NeA lq ll ∧ NeA lq lh) (FF : TalkF i x v κ j k3 c wd fd tw tf qs vH vQ vL vw vf d) {v3 : Int} (hc : κ = 5) (hl4 : ¬ d.held.length = 4) (hqe : qs = []) (hw : Wrongs c (PP (filesGo j d.names))) (h3 : v.fdiv 3 = v3) (hf : v3.fmod 3 = 0 ∨ v3.fmod 3 = 1 ∨ v3.fmod 3 = 2)
   (F1 : Fr g L₂ h (fun y => if y = Str.ofString "name" then some (.str (PP (filesGo j d.names)) u4) else if y = Str.ofString "mark" then some (.str ⟨#[c]⟩ u3) else if y = Str.ofString "value" then some (.int v u2) else if y = Str.ofString "kind" then some (.int κ u1) else if y = Str.ofString "x" then some (.int x t) else talkFr mz m₁ lq lh ll lw lf fr tfr (PP d.names) tpl y))
   (N1 : News g L₂ h ((ll, listOf vL.toArray nL) :: (lh, listOf vH.toArray nH) :: (lq, listOf vQ.toArray nQ) :: (lw, listOf vw.toArray nw) :: (lf, listOf vf.toArray nf) :: (lnum, listOf vsN.toArray n) :: (It, oI) :: tl)) :
   wpAny (model Challenge.rw_pd0171_01.row.prog w) ((ktrTop dp un gd cn cs L a ccd [] []).deeper (envOf (Str.ofString "_law_talk") (fnScope w.params 236) L₂ 236 (.ref 235))) (execs (talkLast w.params) (envOf (Str.ofString "_law_talk") (fnScope w.params 236) L₂ 236 (.ref 235))) (GEnd (TalkG w mean mg mb (ktrTop dp un gd cn cs L a ccd [] []) base g₀ [envOf cn cs L a ccd]) L₂ lnum It oI (listOf vsN.toArray n) (TalkJ ⟨lq, lh, ll, lw, lf, lnum, vw, vf, vsN, nw, nf, n⟩ ns mz (i + 1)) s QF) E { s with heap := h, toks := tk } := by
  revert X
  k_fill
  intro X
  refine noE ?_
  obtain ⟨nI1, nI2, nI3, nI4, nI5, nI6⟩ := nI_A hnI
  obtain ⟨⟨lo1, lo2, lo3, lo4, lo5, lo6, lo7, lo8, lo9⟩, lo10, lo11, lo12⟩ := lo
  have hoff := hS.off
  have hin := hS.hin
  have hdl := hS.dl
  have hq := hS.hq
  have fo := hS.fo
  have hpo := fo.hp
  obtain ⟨hok, hk6, hkk, hv, hv2, hj, hj5, hj2, hm2, hm3, hm4, hmk, hW, hF, lH, lL, lQ, b2, b3, b4, hho, lp, lp0, lw1, lf1, nF, nFl, hOk0⟩ := FF
  have hOk : OkFor c (PP (filesGo j d.names)) := ⟨hOk0⟩
  clear hOk0
  (with_unfolding_all conv in (talkLast _) => whnf)
  (with_unfolding_all conv in (occs := *) (fnScope _ _) => all_goals whnf)
  subst hc
  have hl3 := le3_of b2 hl4
  have qm : decide ((vH.length : Int) < 4) = true := ltI_t (by omega)
  subst hqe
  have qe : ([] : List Int).isEmpty = true := rfl
  obtain ⟨_, _, fr1, fr2⟩ := free_new (nm := PP (filesGo j d.names)) fo hl3
  have fr0 : decide ((0 : Int) < fr) = true := ltI_t (by omega)
  have hst := step_mark (x := x) (by omega) hl4
  clear hOk
  k_steps
  unfold Hold
  refine tail_5 (qs := []) hw (by assumption) (by assumption) nFl h3 hf ?a (by assumption) (by assumption) ?c ?d XB TB (by assumption) (by assumption) (by assumption) (by assumption) (by assumption) hk hdp hun (Fr.ps (by k_asm) (List.forall_mem_cons.mpr ⟨by with_unfolding_all rfl, List.forall_mem_cons.mpr ⟨by with_unfolding_all rfl, List.forall_mem_cons.mpr ⟨by with_unfolding_all rfl, List.forall_mem_cons.mpr ⟨by with_unfolding_all rfl, List.forall_mem_cons.mpr ⟨by with_unfolding_all rfl, List.forall_mem_cons.mpr ⟨by with_unfolding_all rfl, List.forall_mem_cons.mpr ⟨by with_unfolding_all rfl, List.forall_mem_cons.mpr ⟨by with_unfolding_all rfl, List.forall_mem_nil _⟩⟩⟩⟩⟩⟩⟩⟩)) (news_tail (by assumption)) ⟨lo10.h, lo11.h, lo12.h⟩ ?off ?ret
  case a => exact Nat.zero_le _
  case c => omega
  case d => omega
  case off => exact off_7 ⟨lo1.h, lo2.h, lo3.h, lo4.h, lo5.h, lo6.h, lo7.h, lo8.h, lo9.h⟩ ⟨nI1.h, nI2.h, nI3.h, nI4.h, nI5.h, nI6.h⟩ hS.off
  case ret =>
    intro g' h' tk' m' vQ' nQ' qs' t' I' P' H' G' F' hm N'
    (try dsimp only)
    k_steps
    exact talk_fin0 (c := ⟨lq, lh, ll, lw, lf, lnum, vw, vf, vsN, nw, nf, n⟩) G' ⟨by k_asm, by k_asm, frameIs_more ⟨List.forall_mem_cons.mpr ⟨by with_unfolding_all rfl, List.forall_mem_cons.mpr ⟨by with_unfolding_all rfl, List.forall_mem_cons.mpr ⟨by with_unfolding_all rfl, List.forall_mem_cons.mpr ⟨by with_unfolding_all rfl, List.forall_mem_cons.mpr ⟨by with_unfolding_all rfl, List.forall_mem_cons.mpr ⟨by with_unfolding_all rfl, List.forall_mem_cons.mpr ⟨by with_unfolding_all rfl, List.forall_mem_nil _⟩⟩⟩⟩⟩⟩⟩, fun z hz hs => by (obtain ⟨z1, z2, z3, z4, z5, z6, z7, z8, z9, z10, z11⟩ := talkZ hs; obtain ⟨y1, y2, y3, y4, y5, y6, y7⟩ := talkY hz; simp only [kstB, tailPs, talkFr, talkPs, if_neg z1, if_neg z2, if_neg z3, if_neg z4, if_neg z5, if_neg z6, if_neg z7, if_neg z8, if_neg z9, if_neg z10, if_neg z11, if_neg y1, if_neg y2, if_neg y3, if_neg y4, if_neg y5, if_neg y6, if_neg y7, hs, Bool.false_eq_true, if_false])⟩ hm talkPs_off, hxi, hS.ed, hst.symm, by k_mem, by k_mem, by k_mem, by k_mem, hnI, (fun p hp => by k_mem), hne, hS.off⟩ (by k_mem) (by k_mem) (by k_mem) I' (free_backNew fo hl3 P' H') hin (hdl.append (.one (.str _ _)))

end
end
section
open PySem PySem.W PyProof.Rows PySem.Calls PySem.Spec
set_option maxRecDepth 100000
set_option maxHeartbeats 0
theorem lines_C12d_1 : True := by
  k_with_none
  k_with "eval Constant int" => (refine flat_int ?_)
  k_with "eval Constant str" => (refine flat_str ?_)
  k_with "call builtin:issubclass" => (k_here; k_dflt (refine' issub_call ?kqk1 ?_; (case kqk1 => exact News.get (by k_asm) (by k_mem)); k_whole); intro tk)
  k_with "callWith" => (k_here; (with_reducible show wpAny _ _ (callWith _ (Value.builtin _) (_ :: _) _ _) _ _ _); refine callWith_method1 ?_)
  trivial
section
variable {w : World} {mean : ExcName → Option Value} {mg mb : Str → Option Value} {dp un : Nat} {gd : Option (List Code)} {cn : Str} {cs : Scope} {a : Addr} {ccd : Value} {cl : List (Str × Addr)} {outer : List Env} {A₀ : Around} {base h₀ : Heap} {L : Addr} {m : Str → Option Value} {news : List (Addr × Obj)} {s : Shared} {Q E : Value → Shared → Prop}
theorem lo_of {lq lh ll lw lf lnum It : Addr} {ns qs : List Int} {mz m₁ : Str → Option Value} {i : Nat} {fr : Int} {tfr tpl : Tok} {vH vQ vL : List Value} {tl : List (Addr × Obj)} {d : DS} (_hS : TalkS lq lh ll lw lf ns mz i m₁ qs fr tfr tpl vH vQ vL tl d) (_hnI : ∀ p ∈ [ll, lh, lq, lw, lf, lnum], p ≠ It)
  (h : (NeA lw ll ∧ NeA lf ll ∧ NeA lnum ll ∧ NeA lw lh ∧ NeA lf lh ∧ NeA lnum lh ∧ NeA lw lq ∧ NeA lf lq ∧ NeA lnum lq) ∧ NeA lh ll ∧ NeA lq ll ∧ NeA lq lh) : (NeA lw ll ∧ NeA lf ll ∧ NeA lnum ll ∧ NeA lw lh ∧ NeA lf lh ∧ NeA lnum lh ∧ NeA lw lq ∧ NeA lf lq ∧ NeA lnum lq) ∧ NeA lh ll ∧ NeA lq ll ∧ NeA lq lh := h
theorem lines_C12d_2 : True := by
  k_with "exec For Name Name cons nil" => (k_here; (refine hold_it ?_))
  k_with "call ref" => (k_here; (with_reducible show wpAny _ _ (call (Value.ref 222) _) _ _ _); k_dflt (refine' words_spec ?kqk1 ?kqk2 ?kqk3 ?kqk4 ?kqk5 ?kqkK ?kqkd ?kqku ?_; (case kqk1 => k_asm); (case kqk2 => k_asm); (case kqk3 => k_asm); (case kqk4 => k_asm); (case kqk5 => k_asm); (case kqkK => first | exact rfl | assumption); (case kqkd => ktr_room); (case kqku => ktr_units); k_whole); intro D' lf' lw' vf' vw' nf' nw' h' tk' lA' lB' sF' sW' F' N'; (replace lA' := ltN lA'); (replace lB' := ltN lB'); (try k_sweep))
  trivial
theorem talk_spec {lnum : Addr} {n : Nat} {vsN : List Value} {ns : List Int} (hI : IntsAre vsN ns) (hlen : ns.length ≤ 19) (hns : ∀ x ∈ ns, 0 ≤ x ∧ x < 1000000)
   (XB : (hd.heap_39 w.params).In base) (TB : Top hd.view_39 (looseW hd.view_39 []) mean mg mb base)
   (B : Below A₀ base [] h₀) (F : Fr h₀ L s.heap m) (X : (hd.heap_39 w.params).In h₀) (N : News h₀ L s.heap news) (T : Top hd.view_39 (looseW hd.view_39 []) mean mg mb h₀) (hk : cs.kind = .function)
   (hdp : dp + 7 < recursionLimit) (hun : un + 101 < cLine) (hm : (lnum, listOf vsN.toArray n) ∈ news)
   (ret : ∀ r ll lh vL vH nL nH led h' tk', (r, ({ cls := .type "tuple", data := .seq #[.ref ll, .ref lh] } : Obj)) ∈ led → (ll, listOf vL.toArray nL) ∈ led → (lh, listOf vH.toArray nH) ∈ led → (lnum, listOf vsN.toArray n) ∈ led → HeldIn led vH (ns.foldl step d0).held → DatAll led vL (ns.foldl step d0).log →
     Fr h₀ L h' m → News h₀ L h' led → Q (.ref r) { s with heap := h', toks := tk' }) :
   wpAny (model Challenge.rw_pd0171_01.row.prog w) (ktrTop dp un gd cn cs L a ccd [] []) (call (.ref 236) [.ref lnum]) Q E s := by
  revert X XB
  k_fill
  intro XB X
  have NN : News h₀ L s.heap [(lnum, listOf vsN.toArray n)] := fun p hp => by rw [List.mem_singleton.mp hp]; exact N _ hm
  clear N
  refine wpAny_call ?_
  k_dflt (refine' code_defS0 ?k1 ?k2 ?k3 ?k4 ?k5 ?kA ?k6 ?k7 ?k8 ?k9 ?kB ?_ ?cK ?c2 ?c3 ?c4 ?c5; (case kA => exact rfl); (case k2 => k_asm); (case k1 => k_asm); (case k3 => k_asm); (case k4 => exact NN); (case k5 => k_asm); (case k6 => k_is); (case k7 => k_is); (case k8 => k_room); (case k9 => exact BindsTo.of_eq rfl); (case kB => exact locs rfl); (case cK => assumption); (case c2 => exact rfl); (case c3 => exact rfl); (case c4 => exact rfl); (case c5 => decide); k_whole; intro g' L' h' FG' F' N' B' X' T' D'; (try dsimp only); (try k_lift B'); (try k_fold))
  have hG0 : TalkG w mean mg mb (ktrTop dp un gd cn cs L a ccd [] []) base g' [envOf cn cs L a ccd] g' := ⟨B', X', T', D', KtsTurn.refl⟩
  k_steps
  unfold Hold
  refine' talk_loop (G := TalkG w mean mg mb (ktrTop dp un gd cn cs L a ccd [] []) base g' [envOf cn cs L a ccd]) hI hG0 (by rfl) (by rfl) (by rfl) (by k_asm) (by k_asm) ?hm0 ?hit ?turn ?done (by intro _; rfl) (by passes_own)
  case hm0 => exact List.forall_mem_cons.mpr ⟨by with_unfolding_all rfl, List.forall_mem_cons.mpr ⟨by with_unfolding_all rfl, List.forall_mem_cons.mpr ⟨by with_unfolding_all rfl, List.forall_mem_cons.mpr ⟨by with_unfolding_all rfl, List.forall_mem_cons.mpr ⟨by with_unfolding_all rfl, List.forall_mem_cons.mpr ⟨by with_unfolding_all rfl, List.forall_mem_cons.mpr ⟨by with_unfolding_all rfl, List.forall_mem_nil _⟩⟩⟩⟩⟩⟩⟩
  case hit =>
    intro Q' hq
    exact ld (by k_asm) (by rfl) hq
  case done =>
    unfold Hold
    rintro mz g qs fr tfr tpl vH vQ vL nH nQ nL tl d m₁ h tk hG hS F1 N1
    obtain ⟨Bg, Xg, Tg, Dg, Kg⟩ := hG
    have hdd : d = ns.foldl step d0 := by have := hS.ed; rwa [List.take_length] at this
    subst hdd
    have hin := hS.hin
    have hdl := hS.dl
    try k_fold
    k_steps
    (rename News h₀ L _ (_ :: _) => kN)
    exact ret _ _ _ _ _ _ _ _ _ _ (by k_mem) (by k_mem) (by k_mem) (by k_mem) (hin.mono (fun p hp => by k_mem)) (hdl.mono (fun p hp => by k_mem)) (by assumption) kN
  case turn =>
    unfold Hold
    rintro mz g i x t qs fr tfr tpl vH vQ vL nH nQ nL tl d m₁ h tk It oI hxi hG hS hne hnI F1 N1
    obtain ⟨Bg, Xg, Tg, Dg, Kg⟩ := hG
    obtain ⟨v, κ, j, k3, c, wd, fd, tw, tf, W, FF, k0, k6, XX⟩ := talk_facts hxi hlen hns (by assumption) (by assumption) hS
    have lo1 := lo_of hS hnI ⟨⟨⟨neN (by omega)⟩, ⟨neN (by omega)⟩, ⟨neN (by omega)⟩, ⟨neN (by omega)⟩, ⟨neN (by omega)⟩, ⟨neN (by omega)⟩, ⟨neN (by omega)⟩, ⟨neN (by omega)⟩, ⟨neN (by omega)⟩⟩, ⟨neN (by omega)⟩, ⟨neN (by omega)⟩, ⟨neN (by omega)⟩⟩
    refine talk_pre (ns := ns) XB TB Bg Xg Tg Dg Kg hk (by omega) (by omega) FF F1 N1 ?_
    intro h' tk' u1 u2 u3 u4 F2 N2
    have hcase : κ = 3 ∨ κ = 2 ∨ κ = 4 ∨ κ = 5 ∨ κ = 0 ∨ κ = 1 := by omega
    rcases hcase with hc | hc | hc | hc
    · exact talk_t3 XB TB Bg Xg Tg Dg Kg hk (by omega) (by omega) hxi hS hne hnI lo1 FF hc XX.hr XX.lW XX.lP XX.nW XX.h257 F2 N2
    · by_cases hd : d.held = []
      · exact talk_t2a XB TB Bg Xg Tg Dg Kg hk (by omega) (by omega) hxi hS hne hnI lo1 FF hc hd F2 N2
      · exact talk_t2b XB TB Bg Xg Tg Dg Kg hk (by omega) (by omega) hxi hS hne hnI lo1 FF hc hd F2 N2
    · by_cases hd : d.held = []
      · exact talk_t4a XB TB Bg Xg Tg Dg Kg hk (by omega) (by omega) hxi hS hne hnI lo1 FF hc hd F2 N2
      · exact talk_t4b XB TB Bg Xg Tg Dg Kg hk (by omega) (by omega) hxi hS hne hnI lo1 FF hc hd F2 N2
    · by_cases hl4 : d.held.length = 4
      · exact talk_tf XB TB Bg Xg Tg Dg Kg hk (by omega) (by omega) hxi hS hne hnI lo1 FF (by omega) hl4 F2 N2
      · rcases hc with hc | hc
        · by_cases hqe : qs = []
          · exact talk_t5b XB TB Bg Xg Tg Dg Kg hk (by omega) (by omega) hxi hS hne hnI lo1 FF hc hl4 hqe XX.hw rfl XX.hf F2 N2
          · exact talk_t5a XB TB Bg Xg Tg Dg Kg hk (by omega) (by omega) hxi hS hne hnI lo1 FF hc hl4 hqe XX.hw rfl XX.hf F2 N2
        · by_cases hqe : qs = []
          · exact talk_to2 XB TB Bg Xg Tg Dg Kg hk (by omega) (by omega) hxi hS hne hnI lo1 FF hc hl4 hqe F2 N2
          · exact talk_to1 XB TB Bg Xg Tg Dg Kg hk (by omega) (by omega) hxi hS hne hnI lo1 FF hc hl4 hqe F2 N2
end
end
section
open PySem PySem.W PyProof.Rows PySem.Calls PySem.Spec
set_option maxRecDepth 100000
set_option maxHeartbeats 0
theorem lines_C9t3_1 : True := by
  k_with_none
  k_with "eval Constant int" => (refine flat_int ?_)
  k_with "eval Constant str" => (refine flat_str ?_)
  k_with "call builtin:issubclass" => (k_here; k_dflt (refine' issub_call ?kqk1 ?_; (case kqk1 => exact News.get (by k_asm) (by k_mem)); k_whole); intro tk)
  k_with "callWith" => (k_here; (with_reducible show wpAny _ _ (callWith _ (Value.builtin _) (_ :: _) _ _) _ _ _); refine callWith_method1 ?_)
  trivial
section
variable {w : World} {mean : ExcName → Option Value} {mg mb : Str → Option Value} {dp un : Nat} {gd : Option (List Code)} {cn : Str} {cs : Scope} {a : Addr} {ccd : Value} {cl : List (Str × Addr)} {outer : List Env} {A₀ : Around} {base h₀ : Heap} {L : Addr} {m : Str → Option Value} {news : List (Addr × Obj)} {s : Shared} {Q E : Value → Shared → Prop}

theorem lines_C9t3_2 : True := by
  k_with "callWith" => (k_here; (with_reducible show wpAny _ _ (callWith _ (Value.builtin _) (_ :: _) _ _) _ _ _); refine callWith_method1 ?_)
  k_with "call ref" => (k_here; (with_reducible show wpAny _ _ (call (Value.ref 222) _) _ _ _); k_dflt (refine' words_spec ?kqk1 ?kqk2 ?kqk3 ?kqk4 ?kqk5 ?kqkK ?kqkd ?kqku ?_; (case kqk1 => k_asm); (case kqk2 => k_asm); (case kqk3 => k_asm); (case kqk4 => k_asm); (case kqk5 => k_asm); (case kqkK => first | exact rfl | assumption); (case kqkd => ktr_room); (case kqku => ktr_units); k_whole); intro D' lf' lw' vf' vw' nf' nw' h' tk' lA' lB' sF' sW' F' N'; (replace lA' := ltN lA'); (replace lB' := ltN lB'); (try k_sweep))
  k_with "call ref" => (k_here; (with_reducible show wpAny _ _ (call (Value.ref 243) _) _ _ _); k_dflt (refine' go_way ?kqh1 ?kqh2 ?kqh3 ?kqk1 ?kqk2 ?kqk3 ?kqk4 ?kqk5 ?kqkK ?kqkd ?kqku ?kqkm ?_; (case kqh1 => assumption); (case kqh2 => assumption); (case kqh3 => omega); (case kqk1 => k_asm); (case kqk2 => k_asm); (case kqk3 => k_asm); (case kqk4 => k_asm); (case kqkm => k_mem); (case kqk5 => k_asm); (case kqkK => first | exact rfl | assumption); (case kqkd => ktr_room); (case kqku => ktr_units); k_whole); intro r' vs' n' h' tk' D' S' F' N'; (replace D' := allNeA_of D'); (simp only [AllNeA, and_true] at D'); (repeat (obtain ⟨_, D'⟩ := D')); (try k_sweep))
  k_with "call ref" => (k_here; (with_reducible show wpAny _ _ (call (Value.ref 243) _) _ _ _); k_dflt (refine' go_file ?kqh1 ?kqh2 ?kqh3 ?kqk1 ?kqk2 ?kqk3 ?kqk4 ?kqk5 ?kqkK ?kqkd ?kqku ?kqkm ?_; (case kqh1 => assumption); (case kqh2 => assumption); (case kqh3 => omega); (case kqk1 => k_asm); (case kqk2 => k_asm); (case kqk3 => k_asm); (case kqk4 => k_asm); (case kqkm => k_mem); (case kqk5 => k_asm); (case kqkK => first | exact rfl | assumption); (case kqkd => ktr_room); (case kqku => ktr_units); k_whole); intro r' vs' n' h' tk' D' S' F' N'; (replace D' := allNeA_of D'); (simp only [AllNeA, and_true] at D'); (repeat (obtain ⟨_, D'⟩ := D')); (try k_sweep))
  k_with "call ref" => (k_here; (with_reducible show wpAny _ _ (call (Value.ref 248) _) _ _ _); k_dflt (refine' least_spec ?kqh1 ?kqh2 ?kqk1 ?kqk2 ?kqk3 ?kqk4 ?kqk5 ?kqkK ?kqkd ?kqku ?kqkm ?_; (case kqk1 => k_asm); (case kqk2 => k_asm); (case kqk3 => k_asm); (case kqk4 => k_asm); (case kqkm => k_mem); (case kqh1 => refine HeldIn.mono ?kqhs (by assumption); intro p hp; k_mem); (case kqh2 => first | assumption | omega); (case kqk5 => k_asm); (case kqkK => first | exact rfl | assumption); (case kqkd => ktr_room); (case kqku => ktr_units); k_whole); intro r' t' h' tk' L' F' N'; (try k_sweep))
  k_with "binaryOp Mod int int" => (k_here; k_dflt (refine' s_mod ?kqf ?kqb ?_; (case kqf => assumption); (case kqb => omega); k_whole); intro t' k')
  k_with "binaryOp FloorDiv int int" => (k_here; k_dflt (refine' s_div ?kqf ?kqb ?kqc ?_; (case kqf => assumption); (case kqb => omega); (case kqc => omega); k_whole); intro t' k')
  k_with "subscriptTail Name BinOp ref int" => (k_here; k_dflt (refine' l_itemAs ?kqh ?kqn ?kqm ?_ ?kqk6; (case kqn => k_asm); (case kqm => k_mem); (case kqh => assumption); (case kqk6 => with_unfolding_all rfl); k_whole))
  k_with "compareOp Eq ref ref" => (k_here; k_dflt (refine' l_eqNil ?kqn ?kqm ?kqm2 ?kqhh ?kqht ?kqho ?kqhu ?kqhb ?_; (case kqn => k_asm); (case kqm => k_mem); (case kqm2 => k_mem); (case kqhh => assumption); (case kqht => (intro p hp; k_mem)); (case kqho => assumption); (case kqhb => assumption); (case kqhu => ktr_units); k_whole))
  k_with "call builtin:len" => (k_here; k_dflt (refine' l_len ?kqn ?kqm ?kqz ?_; (case kqn => k_asm); (case kqm => k_mem); (case kqz => omega); k_whole); intro t' k')
  k_with "call builtin:list.append" => (k_here; k_dflt (refine' l_append ?kqk1 ?kqk2 ?kqk3 ?kqz ?_; (case kqk1 => k_asm); (case kqk2 => k_asm); (case kqk3 => k_upd); (case kqz => omega); k_whole); intro h' F' N'; (try k_sweep))
  k_with "binaryOp Add ref ref" => (k_here; k_dflt (refine' l_cat ?kqF ?kqN ?kqa ?kqb ?kqz ?_; (case kqF => k_asm); (case kqN => k_asm); (case kqa => k_mem); (case kqb => k_mem); (case kqz => first | omega | (simp only [List.length_append, List.length_cons, List.length_nil, List.length_take, List.length_drop]; omega)); k_whole); intro D' h' F' N' l1; (try k_lt l1); (try k_sweep))
  k_with "subscriptTail Name Slice ref ref" => (k_here; k_dflt (refine' l_slice ?kqF ?kqN ?kqa ?kqp ?kqq ?kqe ?kqz ?_ ?kqs ?kqt; (case kqF => k_asm); (case kqN => k_asm); (case kqa => k_mem); (case kqp => constructor); (case kqq => constructor); (case kqe => assumption); (case kqz => omega); (case kqs => with_unfolding_all rfl); (case kqt => (intro _; with_unfolding_all rfl)); k_whole); intro D' h' F' N' l1; (try k_lt l1); (try k_sweep))
  k_with "call builtin:str.join" => (k_here; k_dflt (refine' l_join ?kqk1 ?kqk2 ?kqk3 ?kqz ?_; (case kqk1 => k_asm); (case kqk2 => k_mem); (case kqk3 => assumption); (case kqz => assumption); k_whole); intro t' k')
  k_with "binaryOp Add str str" => (k_here; k_dflt (refine' s_add ?kqz ?_; (case kqz => first | assumption | omega); k_whole); intro t' k')
  k_with "subscriptTail Name UnaryOp ref int" => (k_here; (with_reducible show wpAny _ _ (subscriptTail _ _ (Value.ref _) (Value.int _ _)) _ _ _); k_dflt (refine' l_last ?kqk1 ?kqk2 ?_ ?kqk6; (case kqk1 => k_asm); (case kqk2 => k_mem); (case kqk6 => with_unfolding_all rfl); k_whole))
  k_with "compareOp Eq int int" => (k_here; refine' s_eqI ?kqf ?_; (case kqf => with_reducible assumption); k_whole)
  k_with "compareOp Lt int int" => (k_here; refine' s_ltI ?kqf ?_; (case kqf => with_reducible assumption); k_whole)
  trivial
theorem due_t3 {g₀ h : Heap} {L₂ ll lw lf lnum lh ln It : Addr} {oI : Obj} {QF : Flow → Shared → Prop} {ns : List Int} {mz m₁ : Str → Option Value} {i j : Nat} {x v κ : Int} {wd fd : Str} {t tw tf : Tok} {vH vN vL vw vf vsN : List Value} {nH nN nL nw nf n tk : Nat} {tl : List (Addr × Obj)} {d : DS}
   (B : Below (ktrTop dp un gd cn cs L a ccd cl outer) base (envX cn cs L a ccd cl :: outer) g₀) (X : (hd.heap_39 w.params).In g₀) (T : Top hd.view_39 (looseW hd.view_39 []) mean mg mb g₀) (hk : cs.kind = .function) (hdp : dp + 5 < recursionLimit) (hun : un + 100 < cLine)
   (hxi : ns[i]? = some x) (hS : DueS ll lw lf ns mz i m₁ lh ln vH vN vL nH nN tl d) (hne : ∀ p ∈ tl, p.1 ≠ It) (hnI : ∀ p ∈ [ll, lw, lf, lnum], p ≠ It) (lo : @Ne Nat lw ll ∧ @Ne Nat lf ll ∧ @Ne Nat lnum ll) (FF : DueF ns i x v κ j wd fd tw tf vH vN vL vw vf d) (hc : κ = 3)
   (F1 : Fr g₀ L₂ h (fun y => if y = Str.ofString "x" then some (.int x t) else dueFr mz m₁ ll lw lf lh ln y))
   (N1 : News g₀ L₂ h ((ll, listOf vL.toArray nL) :: (lw, listOf vw.toArray nw) :: (lf, listOf vf.toArray nf) :: (lnum, listOf vsN.toArray n) :: (It, oI) :: tl)) :
   wpAny (model Challenge.rw_pd0171_01.row.prog w) ((ktrTop dp un gd cn cs L a ccd cl outer).deeper (envOf (Str.ofString "_law_due") (fnScope w.params 255) L₂ 255 (.ref 254))) (execs (forBody (fnBody w.params 255)) (envOf (Str.ofString "_law_due") (fnScope w.params 255) L₂ 255 (.ref 254))) (GEnd (fun g => g = g₀) (envOf (Str.ofString "_law_due") (fnScope w.params 255) L₂ 255 (.ref 254)).locals lnum It oI (listOf vsN.toArray n) (DueJ ⟨ll, lw, lf, lnum, vw, vf, vsN, nw, nf, n⟩ ns mz (i + 1)) s QF) E { s with heap := h, toks := tk } := by
  revert X
  k_fill
  intro X
  obtain ⟨nI1, nI2, nI3, nI4⟩ := nI_A4 hnI
  obtain ⟨lo1', lo2', lo3'⟩ := lo
  have lo1 : NeA _ _ := ⟨lo1'⟩
  have lo2 : NeA _ _ := ⟨lo2'⟩
  have lo3 : NeA _ _ := ⟨lo3'⟩
  clear lo1' lo2' lo3'
  have mh := hS.mh
  have mn := hS.mn
  have hoff := off_of hS.ne
  have hin := hS.hin
  have hdl := hS.dl
  have sN := hS.sn
  obtain ⟨hok, hk6, hkk, hv, hv2, hj, hj5, hj2, hwd, hfd, hW, hF, lN, lH, lL, b1, b2, b3, b4, hho, hw4, hw5, hf4, hf5⟩ := FF
  (with_unfolding_all conv in (forBody _) => whnf)
  (with_unfolding_all conv in (occs := *) (fnScope _ _) => all_goals whnf)
  subst hc
  clear hF hfd hf4 hf5 hho
  k_steps
  exact due_finN (r := r') (c := ⟨ll, lw, lf, lnum, vw, vf, vsN, nw, nf, n⟩) ⟨by k_asm, by k_asm, ⟨List.forall_mem_cons.mpr ⟨by with_unfolding_all rfl, List.forall_mem_cons.mpr ⟨by with_unfolding_all rfl, List.forall_mem_cons.mpr ⟨by with_unfolding_all rfl, List.forall_mem_cons.mpr ⟨by with_unfolding_all rfl, List.forall_mem_cons.mpr ⟨by with_unfolding_all rfl, List.forall_mem_nil _⟩⟩⟩⟩⟩, fun z hz hs => by (obtain ⟨z1, z2, z3, z4, z5, z6, z7⟩ := dueZ hs; simp only [if_neg z1, if_neg z2, if_neg z3, if_neg z4, if_neg z5, if_neg z6, if_neg z7]; exact due_base hz hs)⟩, hxi, hS.ed, by k_mem, by k_mem, by k_mem, by k_mem, hnI, (fun p hp => by k_mem), hne, hS.ne⟩ (step_way hkk (hv2 ▸ hj)).symm (by k_mem) (by k_mem) (by k_ne) (by k_ne) mh (by assumption) hin (hdl.append (.one (.str _ _)))
end
end
section
open PySem PySem.W PyProof.Rows PySem.Calls PySem.Spec
set_option maxRecDepth 100000
set_option maxHeartbeats 0
theorem lines_C9t2a_1 : True := by
  k_with_none
  k_with "eval Constant int" => (refine flat_int ?_)
  k_with "eval Constant str" => (refine flat_str ?_)
  k_with "call builtin:issubclass" => (k_here; k_dflt (refine' issub_call ?kqk1 ?_; (case kqk1 => exact News.get (by k_asm) (by k_mem)); k_whole); intro tk)
  k_with "callWith" => (k_here; (with_reducible show wpAny _ _ (callWith _ (Value.builtin _) (_ :: _) _ _) _ _ _); refine callWith_method1 ?_)
  trivial
section
variable {w : World} {mean : ExcName → Option Value} {mg mb : Str → Option Value} {dp un : Nat} {gd : Option (List Code)} {cn : Str} {cs : Scope} {a : Addr} {ccd : Value} {cl : List (Str × Addr)} {outer : List Env} {A₀ : Around} {base h₀ : Heap} {L : Addr} {m : Str → Option Value} {news : List (Addr × Obj)} {s : Shared} {Q E : Value → Shared → Prop}

theorem lines_C9t2a_2 : True := by
  k_with "callWith" => (k_here; (with_reducible show wpAny _ _ (callWith _ (Value.builtin _) (_ :: _) _ _) _ _ _); refine callWith_method1 ?_)
  k_with "call ref" => (k_here; (with_reducible show wpAny _ _ (call (Value.ref 222) _) _ _ _); k_dflt (refine' words_spec ?kqk1 ?kqk2 ?kqk3 ?kqk4 ?kqk5 ?kqkK ?kqkd ?kqku ?_; (case kqk1 => k_asm); (case kqk2 => k_asm); (case kqk3 => k_asm); (case kqk4 => k_asm); (case kqk5 => k_asm); (case kqkK => first | exact rfl | assumption); (case kqkd => ktr_room); (case kqku => ktr_units); k_whole); intro D' lf' lw' vf' vw' nf' nw' h' tk' lA' lB' sF' sW' F' N'; (replace lA' := ltN lA'); (replace lB' := ltN lB'); (try k_sweep))
  k_with "call ref" => (k_here; (with_reducible show wpAny _ _ (call (Value.ref 243) _) _ _ _); k_dflt (refine' go_way ?kqh1 ?kqh2 ?kqh3 ?kqk1 ?kqk2 ?kqk3 ?kqk4 ?kqk5 ?kqkK ?kqkd ?kqku ?kqkm ?_; (case kqh1 => assumption); (case kqh2 => assumption); (case kqh3 => omega); (case kqk1 => k_asm); (case kqk2 => k_asm); (case kqk3 => k_asm); (case kqk4 => k_asm); (case kqkm => k_mem); (case kqk5 => k_asm); (case kqkK => first | exact rfl | assumption); (case kqkd => ktr_room); (case kqku => ktr_units); k_whole); intro r' vs' n' h' tk' D' S' F' N'; (replace D' := allNeA_of D'); (simp only [AllNeA, and_true] at D'); (repeat (obtain ⟨_, D'⟩ := D')); (try k_sweep))
  k_with "call ref" => (k_here; (with_reducible show wpAny _ _ (call (Value.ref 243) _) _ _ _); k_dflt (refine' go_file ?kqh1 ?kqh2 ?kqh3 ?kqk1 ?kqk2 ?kqk3 ?kqk4 ?kqk5 ?kqkK ?kqkd ?kqku ?kqkm ?_; (case kqh1 => assumption); (case kqh2 => assumption); (case kqh3 => omega); (case kqk1 => k_asm); (case kqk2 => k_asm); (case kqk3 => k_asm); (case kqk4 => k_asm); (case kqkm => k_mem); (case kqk5 => k_asm); (case kqkK => first | exact rfl | assumption); (case kqkd => ktr_room); (case kqku => ktr_units); k_whole); intro r' vs' n' h' tk' D' S' F' N'; (replace D' := allNeA_of D'); (simp only [AllNeA, and_true] at D'); (repeat (obtain ⟨_, D'⟩ := D')); (try k_sweep))
  k_with "call ref" => (k_here; (with_reducible show wpAny _ _ (call (Value.ref 248) _) _ _ _); k_dflt (refine' least_spec ?kqh1 ?kqh2 ?kqk1 ?kqk2 ?kqk3 ?kqk4 ?kqk5 ?kqkK ?kqkd ?kqku ?kqkm ?_; (case kqk1 => k_asm); (case kqk2 => k_asm); (case kqk3 => k_asm); (case kqk4 => k_asm); (case kqkm => k_mem); (case kqh1 => refine HeldIn.mono ?kqhs (by assumption); intro p hp; k_mem); (case kqh2 => first | assumption | omega); (case kqk5 => k_asm); (case kqkK => first | exact rfl | assumption); (case kqkd => ktr_room); (case kqku => ktr_units); k_whole); intro r' t' h' tk' L' F' N'; (try k_sweep))
  k_with "binaryOp Mod int int" => (k_here; k_dflt (refine' s_mod ?kqf ?kqb ?_; (case kqf => assumption); (case kqb => omega); k_whole); intro t' k')
  k_with "binaryOp FloorDiv int int" => (k_here; k_dflt (refine' s_div ?kqf ?kqb ?kqc ?_; (case kqf => assumption); (case kqb => omega); (case kqc => omega); k_whole); intro t' k')
  k_with "subscriptTail Name BinOp ref int" => (k_here; k_dflt (refine' l_itemAs ?kqh ?kqn ?kqm ?_ ?kqk6; (case kqn => k_asm); (case kqm => k_mem); (case kqh => assumption); (case kqk6 => with_unfolding_all rfl); k_whole))
  k_with "compareOp Eq ref ref" => (k_here; k_dflt (refine' l_eqNil ?kqn ?kqm ?kqm2 ?kqhh ?kqht ?kqho ?kqhu ?kqhb ?_; (case kqn => k_asm); (case kqm => k_mem); (case kqm2 => k_mem); (case kqhh => assumption); (case kqht => (intro p hp; k_mem)); (case kqho => assumption); (case kqhb => assumption); (case kqhu => ktr_units); k_whole))
  k_with "call builtin:len" => (k_here; k_dflt (refine' l_len ?kqn ?kqm ?kqz ?_; (case kqn => k_asm); (case kqm => k_mem); (case kqz => omega); k_whole); intro t' k')
  k_with "call builtin:list.append" => (k_here; k_dflt (refine' l_append ?kqk1 ?kqk2 ?kqk3 ?kqz ?_; (case kqk1 => k_asm); (case kqk2 => k_asm); (case kqk3 => k_upd); (case kqz => omega); k_whole); intro h' F' N'; (try k_sweep))
  k_with "binaryOp Add ref ref" => (k_here; k_dflt (refine' l_cat ?kqF ?kqN ?kqa ?kqb ?kqz ?_; (case kqF => k_asm); (case kqN => k_asm); (case kqa => k_mem); (case kqb => k_mem); (case kqz => first | omega | (simp only [List.length_append, List.length_cons, List.length_nil, List.length_take, List.length_drop]; omega)); k_whole); intro D' h' F' N' l1; (try k_lt l1); (try k_sweep))
  k_with "subscriptTail Name Slice ref ref" => (k_here; k_dflt (refine' l_slice ?kqF ?kqN ?kqa ?kqp ?kqq ?kqe ?kqz ?_ ?kqs ?kqt; (case kqF => k_asm); (case kqN => k_asm); (case kqa => k_mem); (case kqp => constructor); (case kqq => constructor); (case kqe => assumption); (case kqz => omega); (case kqs => with_unfolding_all rfl); (case kqt => (intro _; with_unfolding_all rfl)); k_whole); intro D' h' F' N' l1; (try k_lt l1); (try k_sweep))
  k_with "call builtin:str.join" => (k_here; k_dflt (refine' l_join ?kqk1 ?kqk2 ?kqk3 ?kqz ?_; (case kqk1 => k_asm); (case kqk2 => k_mem); (case kqk3 => assumption); (case kqz => assumption); k_whole); intro t' k')
  k_with "binaryOp Add str str" => (k_here; k_dflt (refine' s_add ?kqz ?_; (case kqz => first | assumption | omega); k_whole); intro t' k')
  k_with "subscriptTail Name UnaryOp ref int" => (k_here; (with_reducible show wpAny _ _ (subscriptTail _ _ (Value.ref _) (Value.int _ _)) _ _ _); k_dflt (refine' l_last ?kqk1 ?kqk2 ?_ ?kqk6; (case kqk1 => k_asm); (case kqk2 => k_mem); (case kqk6 => with_unfolding_all rfl); k_whole))
  k_with "compareOp Eq int int" => (k_here; refine' s_eqI ?kqf ?_; (case kqf => with_reducible assumption); k_whole)
  k_with "compareOp Lt int int" => (k_here; refine' s_ltI ?kqf ?_; (case kqf => with_reducible assumption); k_whole)
  trivial
theorem due_t2a {g₀ h : Heap} {L₂ ll lw lf lnum lh ln It : Addr} {oI : Obj} {QF : Flow → Shared → Prop} {ns : List Int} {mz m₁ : Str → Option Value} {i j : Nat} {x v κ : Int} {wd fd : Str} {t tw tf : Tok} {vH vN vL vw vf vsN : List Value} {nH nN nL nw nf n tk : Nat} {tl : List (Addr × Obj)} {d : DS}
   (B : Below (ktrTop dp un gd cn cs L a ccd cl outer) base (envX cn cs L a ccd cl :: outer) g₀) (X : (hd.heap_39 w.params).In g₀) (T : Top hd.view_39 (looseW hd.view_39 []) mean mg mb g₀) (hk : cs.kind = .function) (hdp : dp + 5 < recursionLimit) (hun : un + 100 < cLine)
   (hxi : ns[i]? = some x) (hS : DueS ll lw lf ns mz i m₁ lh ln vH vN vL nH nN tl d) (hne : ∀ p ∈ tl, p.1 ≠ It) (hnI : ∀ p ∈ [ll, lw, lf, lnum], p ≠ It) (lo : @Ne Nat lw ll ∧ @Ne Nat lf ll ∧ @Ne Nat lnum ll) (FF : DueF ns i x v κ j wd fd tw tf vH vN vL vw vf d) (hc : κ = 2) (hd : d.held = [])
   (F1 : Fr g₀ L₂ h (fun y => if y = Str.ofString "x" then some (.int x t) else dueFr mz m₁ ll lw lf lh ln y))
   (N1 : News g₀ L₂ h ((ll, listOf vL.toArray nL) :: (lw, listOf vw.toArray nw) :: (lf, listOf vf.toArray nf) :: (lnum, listOf vsN.toArray n) :: (It, oI) :: tl)) :
   wpAny (model Challenge.rw_pd0171_01.row.prog w) ((ktrTop dp un gd cn cs L a ccd cl outer).deeper (envOf (Str.ofString "_law_due") (fnScope w.params 255) L₂ 255 (.ref 254))) (execs (forBody (fnBody w.params 255)) (envOf (Str.ofString "_law_due") (fnScope w.params 255) L₂ 255 (.ref 254))) (GEnd (fun g => g = g₀) (envOf (Str.ofString "_law_due") (fnScope w.params 255) L₂ 255 (.ref 254)).locals lnum It oI (listOf vsN.toArray n) (DueJ ⟨ll, lw, lf, lnum, vw, vf, vsN, nw, nf, n⟩ ns mz (i + 1)) s QF) E { s with heap := h, toks := tk } := by
  revert X
  k_fill
  intro X
  obtain ⟨nI1, nI2, nI3, nI4⟩ := nI_A4 hnI
  obtain ⟨lo1', lo2', lo3'⟩ := lo
  have lo1 : NeA _ _ := ⟨lo1'⟩
  have lo2 : NeA _ _ := ⟨lo2'⟩
  have lo3 : NeA _ _ := ⟨lo3'⟩
  clear lo1' lo2' lo3'
  have mh := hS.mh
  have mn := hS.mn
  have hoff := off_of hS.ne
  have hin := hS.hin
  have hdl := hS.dl
  have sN := hS.sn
  obtain ⟨hok, hk6, hkk, hv, hv2, hj, hj5, hj2, hwd, hfd, hW, hF, lN, lH, lL, b1, b2, b3, b4, hho, hw4, hw5, hf4, hf5⟩ := FF
  (with_unfolding_all conv in (forBody _) => whnf)
  (with_unfolding_all conv in (occs := *) (fnScope _ _) => all_goals whnf)
  subst hc
  have he : d.held.isEmpty = true := by rw [hd]; rfl
  k_steps
  exact due_fin0 (c := ⟨ll, lw, lf, lnum, vw, vf, vsN, nw, nf, n⟩) (.inr rfl) ⟨by k_asm, by k_asm, ⟨List.forall_mem_cons.mpr ⟨by with_unfolding_all rfl, List.forall_mem_cons.mpr ⟨by with_unfolding_all rfl, List.forall_mem_cons.mpr ⟨by with_unfolding_all rfl, List.forall_mem_cons.mpr ⟨by with_unfolding_all rfl, List.forall_mem_cons.mpr ⟨by with_unfolding_all rfl, List.forall_mem_nil _⟩⟩⟩⟩⟩, fun z hz hs => by (obtain ⟨z1, z2, z3, z4, z5, z6, z7⟩ := dueZ hs; simp only [if_neg z1, if_neg z2, if_neg z3, if_neg z4, if_neg z5, if_neg z6, if_neg z7]; exact due_base hz hs)⟩, hxi, hS.ed, by k_mem, by k_mem, by k_mem, by k_mem, hnI, (fun p hp => by k_mem), hne, hS.ne⟩ (step_idle (.inl hkk) hd).symm (by k_mem) mh mn sN hin hdl
end
end
section
open PySem PySem.W PyProof.Rows PySem.Calls PySem.Spec
set_option maxRecDepth 100000
set_option maxHeartbeats 0
theorem lines_C9t2b_1 : True := by
  k_with_none
  k_with "eval Constant int" => (refine flat_int ?_)
  k_with "eval Constant str" => (refine flat_str ?_)
  k_with "call builtin:issubclass" => (k_here; k_dflt (refine' issub_call ?kqk1 ?_; (case kqk1 => exact News.get (by k_asm) (by k_mem)); k_whole); intro tk)
  k_with "callWith" => (k_here; (with_reducible show wpAny _ _ (callWith _ (Value.builtin _) (_ :: _) _ _) _ _ _); refine callWith_method1 ?_)
  trivial
section
variable {w : World} {mean : ExcName → Option Value} {mg mb : Str → Option Value} {dp un : Nat} {gd : Option (List Code)} {cn : Str} {cs : Scope} {a : Addr} {ccd : Value} {cl : List (Str × Addr)} {outer : List Env} {A₀ : Around} {base h₀ : Heap} {L : Addr} {m : Str → Option Value} {news : List (Addr × Obj)} {s : Shared} {Q E : Value → Shared → Prop}

theorem lines_C9t2b_2 : True := by
  k_with "callWith" => (k_here; (with_reducible show wpAny _ _ (callWith _ (Value.builtin _) (_ :: _) _ _) _ _ _); refine callWith_method1 ?_)
  k_with "call ref" => (k_here; (with_reducible show wpAny _ _ (call (Value.ref 222) _) _ _ _); k_dflt (refine' words_spec ?kqk1 ?kqk2 ?kqk3 ?kqk4 ?kqk5 ?kqkK ?kqkd ?kqku ?_; (case kqk1 => k_asm); (case kqk2 => k_asm); (case kqk3 => k_asm); (case kqk4 => k_asm); (case kqk5 => k_asm); (case kqkK => first | exact rfl | assumption); (case kqkd => ktr_room); (case kqku => ktr_units); k_whole); intro D' lf' lw' vf' vw' nf' nw' h' tk' lA' lB' sF' sW' F' N'; (replace lA' := ltN lA'); (replace lB' := ltN lB'); (try k_sweep))
  k_with "call ref" => (k_here; (with_reducible show wpAny _ _ (call (Value.ref 243) _) _ _ _); k_dflt (refine' go_way ?kqh1 ?kqh2 ?kqh3 ?kqk1 ?kqk2 ?kqk3 ?kqk4 ?kqk5 ?kqkK ?kqkd ?kqku ?kqkm ?_; (case kqh1 => assumption); (case kqh2 => assumption); (case kqh3 => omega); (case kqk1 => k_asm); (case kqk2 => k_asm); (case kqk3 => k_asm); (case kqk4 => k_asm); (case kqkm => k_mem); (case kqk5 => k_asm); (case kqkK => first | exact rfl | assumption); (case kqkd => ktr_room); (case kqku => ktr_units); k_whole); intro r' vs' n' h' tk' D' S' F' N'; (replace D' := allNeA_of D'); (simp only [AllNeA, and_true] at D'); (repeat (obtain ⟨_, D'⟩ := D')); (try k_sweep))
  k_with "call ref" => (k_here; (with_reducible show wpAny _ _ (call (Value.ref 243) _) _ _ _); k_dflt (refine' go_file ?kqh1 ?kqh2 ?kqh3 ?kqk1 ?kqk2 ?kqk3 ?kqk4 ?kqk5 ?kqkK ?kqkd ?kqku ?kqkm ?_; (case kqh1 => assumption); (case kqh2 => assumption); (case kqh3 => omega); (case kqk1 => k_asm); (case kqk2 => k_asm); (case kqk3 => k_asm); (case kqk4 => k_asm); (case kqkm => k_mem); (case kqk5 => k_asm); (case kqkK => first | exact rfl | assumption); (case kqkd => ktr_room); (case kqku => ktr_units); k_whole); intro r' vs' n' h' tk' D' S' F' N'; (replace D' := allNeA_of D'); (simp only [AllNeA, and_true] at D'); (repeat (obtain ⟨_, D'⟩ := D')); (try k_sweep))
  k_with "call ref" => (k_here; (with_reducible show wpAny _ _ (call (Value.ref 248) _) _ _ _); k_dflt (refine' least_spec ?kqh1 ?kqh2 ?kqk1 ?kqk2 ?kqk3 ?kqk4 ?kqk5 ?kqkK ?kqkd ?kqku ?kqkm ?_; (case kqk1 => k_asm); (case kqk2 => k_asm); (case kqk3 => k_asm); (case kqk4 => k_asm); (case kqkm => k_mem); (case kqh1 => refine HeldIn.mono ?kqhs (by assumption); intro p hp; k_mem); (case kqh2 => first | assumption | omega); (case kqk5 => k_asm); (case kqkK => first | exact rfl | assumption); (case kqkd => ktr_room); (case kqku => ktr_units); k_whole); intro r' t' h' tk' L' F' N'; (try k_sweep))
  k_with "binaryOp Mod int int" => (k_here; k_dflt (refine' s_mod ?kqf ?kqb ?_; (case kqf => assumption); (case kqb => omega); k_whole); intro t' k')
  k_with "binaryOp FloorDiv int int" => (k_here; k_dflt (refine' s_div ?kqf ?kqb ?kqc ?_; (case kqf => assumption); (case kqb => omega); (case kqc => omega); k_whole); intro t' k')
  k_with "subscriptTail Name BinOp ref int" => (k_here; k_dflt (refine' l_itemAs ?kqh ?kqn ?kqm ?_ ?kqk6; (case kqn => k_asm); (case kqm => k_mem); (case kqh => assumption); (case kqk6 => with_unfolding_all rfl); k_whole))
  k_with "compareOp Eq ref ref" => (k_here; k_dflt (refine' l_eqNil ?kqn ?kqm ?kqm2 ?kqhh ?kqht ?kqho ?kqhu ?kqhb ?_; (case kqn => k_asm); (case kqm => k_mem); (case kqm2 => k_mem); (case kqhh => assumption); (case kqht => (intro p hp; k_mem)); (case kqho => assumption); (case kqhb => assumption); (case kqhu => ktr_units); k_whole))
  k_with "call builtin:len" => (k_here; k_dflt (refine' l_len ?kqn ?kqm ?kqz ?_; (case kqn => k_asm); (case kqm => k_mem); (case kqz => omega); k_whole); intro t' k')
  k_with "call builtin:list.append" => (k_here; k_dflt (refine' l_append ?kqk1 ?kqk2 ?kqk3 ?kqz ?_; (case kqk1 => k_asm); (case kqk2 => k_asm); (case kqk3 => k_upd); (case kqz => omega); k_whole); intro h' F' N'; (try k_sweep))
  k_with "binaryOp Add ref ref" => (k_here; k_dflt (refine' l_cat ?kqF ?kqN ?kqa ?kqb ?kqz ?_; (case kqF => k_asm); (case kqN => k_asm); (case kqa => k_mem); (case kqb => k_mem); (case kqz => first | omega | (simp only [List.length_append, List.length_cons, List.length_nil, List.length_take, List.length_drop]; omega)); k_whole); intro D' h' F' N' l1; (try k_lt l1); (try k_sweep))
  k_with "subscriptTail Name Slice ref ref" => (k_here; k_dflt (refine' l_slice ?kqF ?kqN ?kqa ?kqp ?kqq ?kqe ?kqz ?_ ?kqs ?kqt; (case kqF => k_asm); (case kqN => k_asm); (case kqa => k_mem); (case kqp => constructor); (case kqq => constructor); (case kqe => assumption); (case kqz => omega); (case kqs => with_unfolding_all rfl); (case kqt => (intro _; with_unfolding_all rfl)); k_whole); intro D' h' F' N' l1; (try k_lt l1); (try k_sweep))
  k_with "call builtin:str.join" => (k_here; k_dflt (refine' l_join ?kqk1 ?kqk2 ?kqk3 ?kqz ?_; (case kqk1 => k_asm); (case kqk2 => k_mem); (case kqk3 => assumption); (case kqz => assumption); k_whole); intro t' k')
  k_with "binaryOp Add str str" => (k_here; k_dflt (refine' s_add ?kqz ?_; (case kqz => first | assumption | omega); k_whole); intro t' k')
  k_with "subscriptTail Name UnaryOp ref int" => (k_here; (with_reducible show wpAny _ _ (subscriptTail _ _ (Value.ref _) (Value.int _ _)) _ _ _); k_dflt (refine' l_last ?kqk1 ?kqk2 ?_ ?kqk6; (case kqk1 => k_asm); (case kqk2 => k_mem); (case kqk6 => with_unfolding_all rfl); k_whole))
  k_with "compareOp Eq int int" => (k_here; refine' s_eqI ?kqf ?_; (case kqf => with_reducible assumption); k_whole)
  k_with "compareOp Lt int int" => (k_here; refine' s_ltI ?kqf ?_; (case kqf => with_reducible assumption); k_whole)
  trivial
theorem due_t2b {g₀ h : Heap} {L₂ ll lw lf lnum lh ln It : Addr} {oI : Obj} {QF : Flow → Shared → Prop} {ns : List Int} {mz m₁ : Str → Option Value} {i j : Nat} {x v κ : Int} {wd fd : Str} {t tw tf : Tok} {vH vN vL vw vf vsN : List Value} {nH nN nL nw nf n tk : Nat} {tl : List (Addr × Obj)} {d : DS}
   (B : Below (ktrTop dp un gd cn cs L a ccd cl outer) base (envX cn cs L a ccd cl :: outer) g₀) (X : (hd.heap_39 w.params).In g₀) (T : Top hd.view_39 (looseW hd.view_39 []) mean mg mb g₀) (hk : cs.kind = .function) (hdp : dp + 5 < recursionLimit) (hun : un + 100 < cLine)
   (hxi : ns[i]? = some x) (hS : DueS ll lw lf ns mz i m₁ lh ln vH vN vL nH nN tl d) (hne : ∀ p ∈ tl, p.1 ≠ It) (hnI : ∀ p ∈ [ll, lw, lf, lnum], p ≠ It) (lo : @Ne Nat lw ll ∧ @Ne Nat lf ll ∧ @Ne Nat lnum ll) (FF : DueF ns i x v κ j wd fd tw tf vH vN vL vw vf d) (hc : κ = 2) (hd : ¬ d.held = [])
   (F1 : Fr g₀ L₂ h (fun y => if y = Str.ofString "x" then some (.int x t) else dueFr mz m₁ ll lw lf lh ln y))
   (N1 : News g₀ L₂ h ((ll, listOf vL.toArray nL) :: (lw, listOf vw.toArray nw) :: (lf, listOf vf.toArray nf) :: (lnum, listOf vsN.toArray n) :: (It, oI) :: tl)) :
   wpAny (model Challenge.rw_pd0171_01.row.prog w) ((ktrTop dp un gd cn cs L a ccd cl outer).deeper (envOf (Str.ofString "_law_due") (fnScope w.params 255) L₂ 255 (.ref 254))) (execs (forBody (fnBody w.params 255)) (envOf (Str.ofString "_law_due") (fnScope w.params 255) L₂ 255 (.ref 254))) (GEnd (fun g => g = g₀) (envOf (Str.ofString "_law_due") (fnScope w.params 255) L₂ 255 (.ref 254)).locals lnum It oI (listOf vsN.toArray n) (DueJ ⟨ll, lw, lf, lnum, vw, vf, vsN, nw, nf, n⟩ ns mz (i + 1)) s QF) E { s with heap := h, toks := tk } := by
  revert X
  k_fill
  intro X
  obtain ⟨nI1, nI2, nI3, nI4⟩ := nI_A4 hnI
  obtain ⟨lo1', lo2', lo3'⟩ := lo
  have lo1 : NeA _ _ := ⟨lo1'⟩
  have lo2 : NeA _ _ := ⟨lo2'⟩
  have lo3 : NeA _ _ := ⟨lo3'⟩
  clear lo1' lo2' lo3'
  have mh := hS.mh
  have mn := hS.mn
  have hoff := off_of hS.ne
  have hin := hS.hin
  have hdl := hS.dl
  have sN := hS.sn
  obtain ⟨hok, hk6, hkk, hv, hv2, hj, hj5, hj2, hwd, hfd, hW, hF, lN, lH, lL, b1, b2, b3, b4, hho, hw4, hw5, hf4, hf5⟩ := FF
  (with_unfolding_all conv in (forBody _) => whnf)
  (with_unfolding_all conv in (occs := *) (fnScope _ _) => all_goals whnf)
  subst hc
  have he : d.held.isEmpty = false := by simpa using hd
  have hlp : 0 < d.held.length := List.length_pos_iff.mpr hd
  obtain ⟨k, hkd, hk4⟩ := nat_of (x := v) (k := (d.held.length : Int)) (by omega)
  have hkp : v.fmod (vH.length : Int) = (k : Int) := by rw [lH]; exact (fmod_of (by omega)).trans hkd
  have hT : kms_pick vH none (some (k : Int)) = vH.take k := (pick_take (by omega) (by omega)).trans (by simp)
  have hD : kms_pick vH (some ((k : Int) + 1)) none = vH.drop (k + 1) := (pick_drop (by omega)).trans (by congr 1)
  k_steps
  exact due_finH (r := D') (c := ⟨ll, lw, lf, lnum, vw, vf, vsN, nw, nf, n⟩) ⟨by k_asm, by k_asm, ⟨List.forall_mem_cons.mpr ⟨by with_unfolding_all rfl, List.forall_mem_cons.mpr ⟨by with_unfolding_all rfl, List.forall_mem_cons.mpr ⟨by with_unfolding_all rfl, List.forall_mem_cons.mpr ⟨by with_unfolding_all rfl, List.forall_mem_cons.mpr ⟨by with_unfolding_all rfl, List.forall_mem_nil _⟩⟩⟩⟩⟩, fun z hz hs => by (obtain ⟨z1, z2, z3, z4, z5, z6, z7⟩ := dueZ hs; simp only [if_neg z1, if_neg z2, if_neg z3, if_neg z4, if_neg z5, if_neg z6, if_neg z7]; exact due_base hz hs)⟩, hxi, hS.ed, by k_mem, by k_mem, by k_mem, by k_mem, hnI, (fun p hp => by k_mem), hne, hS.ne⟩ (step_close hkk hd (hv2 ▸ hkd)).symm (by k_mem) (by k_mem) (by k_ne) (by k_ne) mn sN (hin.erase k) hdl
end
end
section
open PySem PySem.W PyProof.Rows PySem.Calls PySem.Spec
set_option maxRecDepth 100000
set_option maxHeartbeats 0
theorem lines_C9t4a_1 : True := by
  k_with_none
  k_with "eval Constant int" => (refine flat_int ?_)
  k_with "eval Constant str" => (refine flat_str ?_)
  k_with "call builtin:issubclass" => (k_here; k_dflt (refine' issub_call ?kqk1 ?_; (case kqk1 => exact News.get (by k_asm) (by k_mem)); k_whole); intro tk)
  k_with "callWith" => (k_here; (with_reducible show wpAny _ _ (callWith _ (Value.builtin _) (_ :: _) _ _) _ _ _); refine callWith_method1 ?_)
  trivial
section
variable {w : World} {mean : ExcName → Option Value} {mg mb : Str → Option Value} {dp un : Nat} {gd : Option (List Code)} {cn : Str} {cs : Scope} {a : Addr} {ccd : Value} {cl : List (Str × Addr)} {outer : List Env} {A₀ : Around} {base h₀ : Heap} {L : Addr} {m : Str → Option Value} {news : List (Addr × Obj)} {s : Shared} {Q E : Value → Shared → Prop}

theorem lines_C9t4a_2 : True := by
  k_with "callWith" => (k_here; (with_reducible show wpAny _ _ (callWith _ (Value.builtin _) (_ :: _) _ _) _ _ _); refine callWith_method1 ?_)
  k_with "call ref" => (k_here; (with_reducible show wpAny _ _ (call (Value.ref 222) _) _ _ _); k_dflt (refine' words_spec ?kqk1 ?kqk2 ?kqk3 ?kqk4 ?kqk5 ?kqkK ?kqkd ?kqku ?_; (case kqk1 => k_asm); (case kqk2 => k_asm); (case kqk3 => k_asm); (case kqk4 => k_asm); (case kqk5 => k_asm); (case kqkK => first | exact rfl | assumption); (case kqkd => ktr_room); (case kqku => ktr_units); k_whole); intro D' lf' lw' vf' vw' nf' nw' h' tk' lA' lB' sF' sW' F' N'; (replace lA' := ltN lA'); (replace lB' := ltN lB'); (try k_sweep))
  k_with "call ref" => (k_here; (with_reducible show wpAny _ _ (call (Value.ref 243) _) _ _ _); k_dflt (refine' go_way ?kqh1 ?kqh2 ?kqh3 ?kqk1 ?kqk2 ?kqk3 ?kqk4 ?kqk5 ?kqkK ?kqkd ?kqku ?kqkm ?_; (case kqh1 => assumption); (case kqh2 => assumption); (case kqh3 => omega); (case kqk1 => k_asm); (case kqk2 => k_asm); (case kqk3 => k_asm); (case kqk4 => k_asm); (case kqkm => k_mem); (case kqk5 => k_asm); (case kqkK => first | exact rfl | assumption); (case kqkd => ktr_room); (case kqku => ktr_units); k_whole); intro r' vs' n' h' tk' D' S' F' N'; (replace D' := allNeA_of D'); (simp only [AllNeA, and_true] at D'); (repeat (obtain ⟨_, D'⟩ := D')); (try k_sweep))
  k_with "call ref" => (k_here; (with_reducible show wpAny _ _ (call (Value.ref 243) _) _ _ _); k_dflt (refine' go_file ?kqh1 ?kqh2 ?kqh3 ?kqk1 ?kqk2 ?kqk3 ?kqk4 ?kqk5 ?kqkK ?kqkd ?kqku ?kqkm ?_; (case kqh1 => assumption); (case kqh2 => assumption); (case kqh3 => omega); (case kqk1 => k_asm); (case kqk2 => k_asm); (case kqk3 => k_asm); (case kqk4 => k_asm); (case kqkm => k_mem); (case kqk5 => k_asm); (case kqkK => first | exact rfl | assumption); (case kqkd => ktr_room); (case kqku => ktr_units); k_whole); intro r' vs' n' h' tk' D' S' F' N'; (replace D' := allNeA_of D'); (simp only [AllNeA, and_true] at D'); (repeat (obtain ⟨_, D'⟩ := D')); (try k_sweep))
  k_with "call ref" => (k_here; (with_reducible show wpAny _ _ (call (Value.ref 248) _) _ _ _); k_dflt (refine' least_spec ?kqh1 ?kqh2 ?kqk1 ?kqk2 ?kqk3 ?kqk4 ?kqk5 ?kqkK ?kqkd ?kqku ?kqkm ?_; (case kqk1 => k_asm); (case kqk2 => k_asm); (case kqk3 => k_asm); (case kqk4 => k_asm); (case kqkm => k_mem); (case kqh1 => refine HeldIn.mono ?kqhs (by assumption); intro p hp; k_mem); (case kqh2 => first | assumption | omega); (case kqk5 => k_asm); (case kqkK => first | exact rfl | assumption); (case kqkd => ktr_room); (case kqku => ktr_units); k_whole); intro r' t' h' tk' L' F' N'; (try k_sweep))
  k_with "binaryOp Mod int int" => (k_here; k_dflt (refine' s_mod ?kqf ?kqb ?_; (case kqf => assumption); (case kqb => omega); k_whole); intro t' k')
  k_with "binaryOp FloorDiv int int" => (k_here; k_dflt (refine' s_div ?kqf ?kqb ?kqc ?_; (case kqf => assumption); (case kqb => omega); (case kqc => omega); k_whole); intro t' k')
  k_with "subscriptTail Name BinOp ref int" => (k_here; k_dflt (refine' l_itemAs ?kqh ?kqn ?kqm ?_ ?kqk6; (case kqn => k_asm); (case kqm => k_mem); (case kqh => assumption); (case kqk6 => with_unfolding_all rfl); k_whole))
  k_with "compareOp Eq ref ref" => (k_here; k_dflt (refine' l_eqNil ?kqn ?kqm ?kqm2 ?kqhh ?kqht ?kqho ?kqhu ?kqhb ?_; (case kqn => k_asm); (case kqm => k_mem); (case kqm2 => k_mem); (case kqhh => assumption); (case kqht => (intro p hp; k_mem)); (case kqho => assumption); (case kqhb => assumption); (case kqhu => ktr_units); k_whole))
  k_with "call builtin:len" => (k_here; k_dflt (refine' l_len ?kqn ?kqm ?kqz ?_; (case kqn => k_asm); (case kqm => k_mem); (case kqz => omega); k_whole); intro t' k')
  k_with "call builtin:list.append" => (k_here; k_dflt (refine' l_append ?kqk1 ?kqk2 ?kqk3 ?kqz ?_; (case kqk1 => k_asm); (case kqk2 => k_asm); (case kqk3 => k_upd); (case kqz => omega); k_whole); intro h' F' N'; (try k_sweep))
  k_with "binaryOp Add ref ref" => (k_here; k_dflt (refine' l_cat ?kqF ?kqN ?kqa ?kqb ?kqz ?_; (case kqF => k_asm); (case kqN => k_asm); (case kqa => k_mem); (case kqb => k_mem); (case kqz => first | omega | (simp only [List.length_append, List.length_cons, List.length_nil, List.length_take, List.length_drop]; omega)); k_whole); intro D' h' F' N' l1; (try k_lt l1); (try k_sweep))
  k_with "subscriptTail Name Slice ref ref" => (k_here; k_dflt (refine' l_slice ?kqF ?kqN ?kqa ?kqp ?kqq ?kqe ?kqz ?_ ?kqs ?kqt; (case kqF => k_asm); (case kqN => k_asm); (case kqa => k_mem); (case kqp => constructor); (case kqq => constructor); (case kqe => assumption); (case kqz => omega); (case kqs => with_unfolding_all rfl); (case kqt => (intro _; with_unfolding_all rfl)); k_whole); intro D' h' F' N' l1; (try k_lt l1); (try k_sweep))
  k_with "call builtin:str.join" => (k_here; k_dflt (refine' l_join ?kqk1 ?kqk2 ?kqk3 ?kqz ?_; (case kqk1 => k_asm); (case kqk2 => k_mem); (case kqk3 => assumption); (case kqz => assumption); k_whole); intro t' k')
  k_with "binaryOp Add str str" => (k_here; k_dflt (refine' s_add ?kqz ?_; (case kqz => first | assumption | omega); k_whole); intro t' k')
  k_with "subscriptTail Name UnaryOp ref int" => (k_here; (with_reducible show wpAny _ _ (subscriptTail _ _ (Value.ref _) (Value.int _ _)) _ _ _); k_dflt (refine' l_last ?kqk1 ?kqk2 ?_ ?kqk6; (case kqk1 => k_asm); (case kqk2 => k_mem); (case kqk6 => with_unfolding_all rfl); k_whole))
  k_with "compareOp Eq int int" => (k_here; refine' s_eqI ?kqf ?_; (case kqf => with_reducible assumption); k_whole)
  k_with "compareOp Lt int int" => (k_here; refine' s_ltI ?kqf ?_; (case kqf => with_reducible assumption); k_whole)
  trivial
theorem due_t4a {g₀ h : Heap} {L₂ ll lw lf lnum lh ln It : Addr} {oI : Obj} {QF : Flow → Shared → Prop} {ns : List Int} {mz m₁ : Str → Option Value} {i j : Nat} {x v κ : Int} {wd fd : Str} {t tw tf : Tok} {vH vN vL vw vf vsN : List Value} {nH nN nL nw nf n tk : Nat} {tl : List (Addr × Obj)} {d : DS}
   (B : Below (ktrTop dp un gd cn cs L a ccd cl outer) base (envX cn cs L a ccd cl :: outer) g₀) (X : (hd.heap_39 w.params).In g₀) (T : Top hd.view_39 (looseW hd.view_39 []) mean mg mb g₀) (hk : cs.kind = .function) (hdp : dp + 5 < recursionLimit) (hun : un + 100 < cLine)
   (hxi : ns[i]? = some x) (hS : DueS ll lw lf ns mz i m₁ lh ln vH vN vL nH nN tl d) (hne : ∀ p ∈ tl, p.1 ≠ It) (hnI : ∀ p ∈ [ll, lw, lf, lnum], p ≠ It) (lo : @Ne Nat lw ll ∧ @Ne Nat lf ll ∧ @Ne Nat lnum ll) (FF : DueF ns i x v κ j wd fd tw tf vH vN vL vw vf d) (hc : κ = 4) (hd : d.held = [])
   (F1 : Fr g₀ L₂ h (fun y => if y = Str.ofString "x" then some (.int x t) else dueFr mz m₁ ll lw lf lh ln y))
   (N1 : News g₀ L₂ h ((ll, listOf vL.toArray nL) :: (lw, listOf vw.toArray nw) :: (lf, listOf vf.toArray nf) :: (lnum, listOf vsN.toArray n) :: (It, oI) :: tl)) :
   wpAny (model Challenge.rw_pd0171_01.row.prog w) ((ktrTop dp un gd cn cs L a ccd cl outer).deeper (envOf (Str.ofString "_law_due") (fnScope w.params 255) L₂ 255 (.ref 254))) (execs (forBody (fnBody w.params 255)) (envOf (Str.ofString "_law_due") (fnScope w.params 255) L₂ 255 (.ref 254))) (GEnd (fun g => g = g₀) (envOf (Str.ofString "_law_due") (fnScope w.params 255) L₂ 255 (.ref 254)).locals lnum It oI (listOf vsN.toArray n) (DueJ ⟨ll, lw, lf, lnum, vw, vf, vsN, nw, nf, n⟩ ns mz (i + 1)) s QF) E { s with heap := h, toks := tk } := by
  revert X
  k_fill
  intro X
  obtain ⟨nI1, nI2, nI3, nI4⟩ := nI_A4 hnI
  obtain ⟨lo1', lo2', lo3'⟩ := lo
  have lo1 : NeA _ _ := ⟨lo1'⟩
  have lo2 : NeA _ _ := ⟨lo2'⟩
  have lo3 : NeA _ _ := ⟨lo3'⟩
  clear lo1' lo2' lo3'
  have mh := hS.mh
  have mn := hS.mn
  have hoff := off_of hS.ne
  have hin := hS.hin
  have hdl := hS.dl
  have sN := hS.sn
  obtain ⟨hok, hk6, hkk, hv, hv2, hj, hj5, hj2, hwd, hfd, hW, hF, lN, lH, lL, b1, b2, b3, b4, hho, hw4, hw5, hf4, hf5⟩ := FF
  (with_unfolding_all conv in (forBody _) => whnf)
  (with_unfolding_all conv in (occs := *) (fnScope _ _) => all_goals whnf)
  subst hc
  have he : d.held.isEmpty = true := by rw [hd]; rfl
  k_steps
  exact due_fin0 (c := ⟨ll, lw, lf, lnum, vw, vf, vsN, nw, nf, n⟩) (.inr rfl) ⟨by k_asm, by k_asm, ⟨List.forall_mem_cons.mpr ⟨by with_unfolding_all rfl, List.forall_mem_cons.mpr ⟨by with_unfolding_all rfl, List.forall_mem_cons.mpr ⟨by with_unfolding_all rfl, List.forall_mem_cons.mpr ⟨by with_unfolding_all rfl, List.forall_mem_cons.mpr ⟨by with_unfolding_all rfl, List.forall_mem_nil _⟩⟩⟩⟩⟩, fun z hz hs => by (obtain ⟨z1, z2, z3, z4, z5, z6, z7⟩ := dueZ hs; simp only [if_neg z1, if_neg z2, if_neg z3, if_neg z4, if_neg z5, if_neg z6, if_neg z7]; exact due_base hz hs)⟩, hxi, hS.ed, by k_mem, by k_mem, by k_mem, by k_mem, hnI, (fun p hp => by k_mem), hne, hS.ne⟩ (step_idle (.inr hkk) hd).symm (by k_mem) mh mn sN hin hdl
end
end
section
open PySem PySem.W PyProof.Rows PySem.Calls PySem.Spec
set_option maxRecDepth 100000
set_option maxHeartbeats 0
theorem lines_C9t4b_1 : True := by
  k_with_none
  k_with "eval Constant int" => (refine flat_int ?_)
  k_with "eval Constant str" => (refine flat_str ?_)
  k_with "call builtin:issubclass" => (k_here; k_dflt (refine' issub_call ?kqk1 ?_; (case kqk1 => exact News.get (by k_asm) (by k_mem)); k_whole); intro tk)
  k_with "callWith" => (k_here; (with_reducible show wpAny _ _ (callWith _ (Value.builtin _) (_ :: _) _ _) _ _ _); refine callWith_method1 ?_)
  trivial
section
variable {w : World} {mean : ExcName → Option Value} {mg mb : Str → Option Value} {dp un : Nat} {gd : Option (List Code)} {cn : Str} {cs : Scope} {a : Addr} {ccd : Value} {cl : List (Str × Addr)} {outer : List Env} {A₀ : Around} {base h₀ : Heap} {L : Addr} {m : Str → Option Value} {news : List (Addr × Obj)} {s : Shared} {Q E : Value → Shared → Prop}

theorem lines_C9t4b_2 : True := by
  k_with "callWith" => (k_here; (with_reducible show wpAny _ _ (callWith _ (Value.builtin _) (_ :: _) _ _) _ _ _); refine callWith_method1 ?_)
  k_with "call ref" => (k_here; (with_reducible show wpAny _ _ (call (Value.ref 222) _) _ _ _); k_dflt (refine' words_spec ?kqk1 ?kqk2 ?kqk3 ?kqk4 ?kqk5 ?kqkK ?kqkd ?kqku ?_; (case kqk1 => k_asm); (case kqk2 => k_asm); (case kqk3 => k_asm); (case kqk4 => k_asm); (case kqk5 => k_asm); (case kqkK => first | exact rfl | assumption); (case kqkd => ktr_room); (case kqku => ktr_units); k_whole); intro D' lf' lw' vf' vw' nf' nw' h' tk' lA' lB' sF' sW' F' N'; (replace lA' := ltN lA'); (replace lB' := ltN lB'); (try k_sweep))
  k_with "call ref" => (k_here; (with_reducible show wpAny _ _ (call (Value.ref 243) _) _ _ _); k_dflt (refine' go_way ?kqh1 ?kqh2 ?kqh3 ?kqk1 ?kqk2 ?kqk3 ?kqk4 ?kqk5 ?kqkK ?kqkd ?kqku ?kqkm ?_; (case kqh1 => assumption); (case kqh2 => assumption); (case kqh3 => omega); (case kqk1 => k_asm); (case kqk2 => k_asm); (case kqk3 => k_asm); (case kqk4 => k_asm); (case kqkm => k_mem); (case kqk5 => k_asm); (case kqkK => first | exact rfl | assumption); (case kqkd => ktr_room); (case kqku => ktr_units); k_whole); intro r' vs' n' h' tk' D' S' F' N'; (replace D' := allNeA_of D'); (simp only [AllNeA, and_true] at D'); (repeat (obtain ⟨_, D'⟩ := D')); (try k_sweep))
  k_with "call ref" => (k_here; (with_reducible show wpAny _ _ (call (Value.ref 243) _) _ _ _); k_dflt (refine' go_file ?kqh1 ?kqh2 ?kqh3 ?kqk1 ?kqk2 ?kqk3 ?kqk4 ?kqk5 ?kqkK ?kqkd ?kqku ?kqkm ?_; (case kqh1 => assumption); (case kqh2 => assumption); (case kqh3 => omega); (case kqk1 => k_asm); (case kqk2 => k_asm); (case kqk3 => k_asm); (case kqk4 => k_asm); (case kqkm => k_mem); (case kqk5 => k_asm); (case kqkK => first | exact rfl | assumption); (case kqkd => ktr_room); (case kqku => ktr_units); k_whole); intro r' vs' n' h' tk' D' S' F' N'; (replace D' := allNeA_of D'); (simp only [AllNeA, and_true] at D'); (repeat (obtain ⟨_, D'⟩ := D')); (try k_sweep))
  k_with "call ref" => (k_here; (with_reducible show wpAny _ _ (call (Value.ref 248) _) _ _ _); k_dflt (refine' least_spec ?kqh1 ?kqh2 ?kqk1 ?kqk2 ?kqk3 ?kqk4 ?kqk5 ?kqkK ?kqkd ?kqku ?kqkm ?_; (case kqk1 => k_asm); (case kqk2 => k_asm); (case kqk3 => k_asm); (case kqk4 => k_asm); (case kqkm => k_mem); (case kqh1 => refine HeldIn.mono ?kqhs (by assumption); intro p hp; k_mem); (case kqh2 => first | assumption | omega); (case kqk5 => k_asm); (case kqkK => first | exact rfl | assumption); (case kqkd => ktr_room); (case kqku => ktr_units); k_whole); intro r' t' h' tk' L' F' N'; (try k_sweep))
  k_with "binaryOp Mod int int" => (k_here; k_dflt (refine' s_mod ?kqf ?kqb ?_; (case kqf => assumption); (case kqb => omega); k_whole); intro t' k')
  k_with "binaryOp FloorDiv int int" => (k_here; k_dflt (refine' s_div ?kqf ?kqb ?kqc ?_; (case kqf => assumption); (case kqb => omega); (case kqc => omega); k_whole); intro t' k')
  k_with "subscriptTail Name BinOp ref int" => (k_here; k_dflt (refine' l_itemAs ?kqh ?kqn ?kqm ?_ ?kqk6; (case kqn => k_asm); (case kqm => k_mem); (case kqh => assumption); (case kqk6 => with_unfolding_all rfl); k_whole))
  k_with "compareOp Eq ref ref" => (k_here; k_dflt (refine' l_eqNil ?kqn ?kqm ?kqm2 ?kqhh ?kqht ?kqho ?kqhu ?kqhb ?_; (case kqn => k_asm); (case kqm => k_mem); (case kqm2 => k_mem); (case kqhh => assumption); (case kqht => (intro p hp; k_mem)); (case kqho => assumption); (case kqhb => assumption); (case kqhu => ktr_units); k_whole))
  k_with "call builtin:len" => (k_here; k_dflt (refine' l_len ?kqn ?kqm ?kqz ?_; (case kqn => k_asm); (case kqm => k_mem); (case kqz => omega); k_whole); intro t' k')
  k_with "call builtin:list.append" => (k_here; k_dflt (refine' l_append ?kqk1 ?kqk2 ?kqk3 ?kqz ?_; (case kqk1 => k_asm); (case kqk2 => k_asm); (case kqk3 => k_upd); (case kqz => omega); k_whole); intro h' F' N'; (try k_sweep))
  k_with "binaryOp Add ref ref" => (k_here; k_dflt (refine' l_cat ?kqF ?kqN ?kqa ?kqb ?kqz ?_; (case kqF => k_asm); (case kqN => k_asm); (case kqa => k_mem); (case kqb => k_mem); (case kqz => first | omega | (simp only [List.length_append, List.length_cons, List.length_nil, List.length_take, List.length_drop]; omega)); k_whole); intro D' h' F' N' l1; (try k_lt l1); (try k_sweep))
  k_with "subscriptTail Name Slice ref ref" => (k_here; k_dflt (refine' l_slice ?kqF ?kqN ?kqa ?kqp ?kqq ?kqe ?kqz ?_ ?kqs ?kqt; (case kqF => k_asm); (case kqN => k_asm); (case kqa => k_mem); (case kqp => constructor); (case kqq => constructor); (case kqe => assumption); (case kqz => omega); (case kqs => with_unfolding_all rfl); (case kqt => (intro _; with_unfolding_all rfl)); k_whole); intro D' h' F' N' l1; (try k_lt l1); (try k_sweep))
  k_with "call builtin:str.join" => (k_here; k_dflt (refine' l_join ?kqk1 ?kqk2 ?kqk3 ?kqz ?_; (case kqk1 => k_asm); (case kqk2 => k_mem); (case kqk3 => assumption); (case kqz => assumption); k_whole); intro t' k')
  k_with "binaryOp Add str str" => (k_here; k_dflt (refine' s_add ?kqz ?_; (case kqz => first | assumption | omega); k_whole); intro t' k')
  k_with "subscriptTail Name UnaryOp ref int" => (k_here; (with_reducible show wpAny _ _ (subscriptTail _ _ (Value.ref _) (Value.int _ _)) _ _ _); k_dflt (refine' l_last ?kqk1 ?kqk2 ?_ ?kqk6; (case kqk1 => k_asm); (case kqk2 => k_mem); (case kqk6 => with_unfolding_all rfl); k_whole))
  k_with "compareOp Eq int int" => (k_here; refine' s_eqI ?kqf ?_; (case kqf => with_reducible assumption); k_whole)
  k_with "compareOp Lt int int" => (k_here; refine' s_ltI ?kqf ?_; (case kqf => with_reducible assumption); k_whole)
  trivial
theorem due_t4b {g₀ h : Heap} {L₂ ll lw lf lnum lh ln It : Addr} {oI : Obj} {QF : Flow → Shared → Prop} {ns : List Int} {mz m₁ : Str → Option Value} {i j : Nat} {x v κ : Int} {wd fd : Str} {t tw tf : Tok} {vH vN vL vw vf vsN : List Value} {nH nN nL nw nf n tk : Nat} {tl : List (Addr × Obj)} {d : DS}
   (B : Below (ktrTop dp un gd cn cs L a ccd cl outer) base (envX cn cs L a ccd cl :: outer) g₀) (X : (hd.heap_39 w.params).In g₀) (T : Top hd.view_39 (looseW hd.view_39 []) mean mg mb g₀) (hk : cs.kind = .function) (hdp : dp + 5 < recursionLimit) (hun : un + 100 < cLine)
   (hxi : ns[i]? = some x) (hS : DueS ll lw lf ns mz i m₁ lh ln vH vN vL nH nN tl d) (hne : ∀ p ∈ tl, p.1 ≠ It) (hnI : ∀ p ∈ [ll, lw, lf, lnum], p ≠ It) (lo : @Ne Nat lw ll ∧ @Ne Nat lf ll ∧ @Ne Nat lnum ll) (FF : DueF ns i x v κ j wd fd tw tf vH vN vL vw vf d) (hc : κ = 4) (hd : ¬ d.held = [])
   (F1 : Fr g₀ L₂ h (fun y => if y = Str.ofString "x" then some (.int x t) else dueFr mz m₁ ll lw lf lh ln y))
   (N1 : News g₀ L₂ h ((ll, listOf vL.toArray nL) :: (lw, listOf vw.toArray nw) :: (lf, listOf vf.toArray nf) :: (lnum, listOf vsN.toArray n) :: (It, oI) :: tl)) :
   wpAny (model Challenge.rw_pd0171_01.row.prog w) ((ktrTop dp un gd cn cs L a ccd cl outer).deeper (envOf (Str.ofString "_law_due") (fnScope w.params 255) L₂ 255 (.ref 254))) (execs (forBody (fnBody w.params 255)) (envOf (Str.ofString "_law_due") (fnScope w.params 255) L₂ 255 (.ref 254))) (GEnd (fun g => g = g₀) (envOf (Str.ofString "_law_due") (fnScope w.params 255) L₂ 255 (.ref 254)).locals lnum It oI (listOf vsN.toArray n) (DueJ ⟨ll, lw, lf, lnum, vw, vf, vsN, nw, nf, n⟩ ns mz (i + 1)) s QF) E { s with heap := h, toks := tk } := by
  revert X
  k_fill
  intro X
  obtain ⟨nI1, nI2, nI3, nI4⟩ := nI_A4 hnI
  obtain ⟨lo1', lo2', lo3'⟩ := lo
  have lo1 : NeA _ _ := ⟨lo1'⟩
  have lo2 : NeA _ _ := ⟨lo2'⟩
  have lo3 : NeA _ _ := ⟨lo3'⟩
  clear lo1' lo2' lo3'
  have mh := hS.mh
  have mn := hS.mn
  have hoff := off_of hS.ne
  have hin := hS.hin
  have hdl := hS.dl
  have sN := hS.sn
  obtain ⟨hok, hk6, hkk, hv, hv2, hj, hj5, hj2, hwd, hfd, hW, hF, lN, lH, lL, b1, b2, b3, b4, hho, hw4, hw5, hf4, hf5⟩ := FF
  (with_unfolding_all conv in (forBody _) => whnf)
  (with_unfolding_all conv in (occs := *) (fnScope _ _) => all_goals whnf)
  subst hc
  have he : d.held.isEmpty = false := by simpa using hd
  have hlp : 0 < d.held.length := List.length_pos_iff.mpr hd
  obtain ⟨k, hkd, hk4⟩ := nat_of (x := v) (k := (d.held.length : Int)) (by omega)
  have hkp : v.fmod (vH.length : Int) = (k : Int) := by rw [lH]; exact (fmod_of (by omega)).trans hkd
  have hT : kms_pick vH none (some (k : Int)) = vH.take k := (pick_take (by omega) (by omega)).trans (by simp)
  have hD : kms_pick vH (some ((k : Int) + 1)) none = vH.drop (k + 1) := (pick_drop (by omega)).trans (by congr 1)
  have hin2 := hin.erase k
  have hl3 : (d.held.eraseIdx k).length ≤ 3 := by rw [List.length_eraseIdx_of_lt (by omega)]; omega
  clear hwd hW hw4 hw5
  k_steps
  exact due_finO (r := D') (j := j) (c := ⟨ll, lw, lf, lnum, vw, vf, vsN, nw, nf, n⟩) ⟨by k_asm, by k_asm, ⟨List.forall_mem_cons.mpr ⟨by with_unfolding_all rfl, List.forall_mem_cons.mpr ⟨by with_unfolding_all rfl, List.forall_mem_cons.mpr ⟨by with_unfolding_all rfl, List.forall_mem_cons.mpr ⟨by with_unfolding_all rfl, List.forall_mem_cons.mpr ⟨by with_unfolding_all rfl, List.forall_mem_nil _⟩⟩⟩⟩⟩, fun z hz hs => by (obtain ⟨z1, z2, z3, z4, z5, z6, z7⟩ := dueZ hs; simp only [if_neg z1, if_neg z2, if_neg z3, if_neg z4, if_neg z5, if_neg z6, if_neg z7]; exact due_base hz hs)⟩, hxi, hS.ed, by k_mem, by k_mem, by k_mem, by k_mem, hnI, (fun p hp => by k_mem), hne, hS.ne⟩ (step_swap hkk hd (hv2 ▸ hkd) (hv2 ▸ hj)) (by assumption) (by k_mem) (by k_mem) (by k_mem) (by k_mem) (by k_ne) (by k_ne) (by k_ne) (by k_ne) (by k_ne) (by k_ne) mn sN (by assumption) hdl
end
end
section
open PySem PySem.W PyProof.Rows PySem.Calls PySem.Spec
set_option maxRecDepth 100000
set_option maxHeartbeats 0
theorem lines_C9tf_1 : True := by
  k_with_none
  k_with "eval Constant int" => (refine flat_int ?_)
  k_with "eval Constant str" => (refine flat_str ?_)
  k_with "call builtin:issubclass" => (k_here; k_dflt (refine' issub_call ?kqk1 ?_; (case kqk1 => exact News.get (by k_asm) (by k_mem)); k_whole); intro tk)
  k_with "callWith" => (k_here; (with_reducible show wpAny _ _ (callWith _ (Value.builtin _) (_ :: _) _ _) _ _ _); refine callWith_method1 ?_)
  trivial
section
variable {w : World} {mean : ExcName → Option Value} {mg mb : Str → Option Value} {dp un : Nat} {gd : Option (List Code)} {cn : Str} {cs : Scope} {a : Addr} {ccd : Value} {cl : List (Str × Addr)} {outer : List Env} {A₀ : Around} {base h₀ : Heap} {L : Addr} {m : Str → Option Value} {news : List (Addr × Obj)} {s : Shared} {Q E : Value → Shared → Prop}

theorem lines_C9tf_2 : True := by
  k_with "callWith" => (k_here; (with_reducible show wpAny _ _ (callWith _ (Value.builtin _) (_ :: _) _ _) _ _ _); refine callWith_method1 ?_)
  k_with "call ref" => (k_here; (with_reducible show wpAny _ _ (call (Value.ref 222) _) _ _ _); k_dflt (refine' words_spec ?kqk1 ?kqk2 ?kqk3 ?kqk4 ?kqk5 ?kqkK ?kqkd ?kqku ?_; (case kqk1 => k_asm); (case kqk2 => k_asm); (case kqk3 => k_asm); (case kqk4 => k_asm); (case kqk5 => k_asm); (case kqkK => first | exact rfl | assumption); (case kqkd => ktr_room); (case kqku => ktr_units); k_whole); intro D' lf' lw' vf' vw' nf' nw' h' tk' lA' lB' sF' sW' F' N'; (replace lA' := ltN lA'); (replace lB' := ltN lB'); (try k_sweep))
  k_with "call ref" => (k_here; (with_reducible show wpAny _ _ (call (Value.ref 243) _) _ _ _); k_dflt (refine' go_way ?kqh1 ?kqh2 ?kqh3 ?kqk1 ?kqk2 ?kqk3 ?kqk4 ?kqk5 ?kqkK ?kqkd ?kqku ?kqkm ?_; (case kqh1 => assumption); (case kqh2 => assumption); (case kqh3 => omega); (case kqk1 => k_asm); (case kqk2 => k_asm); (case kqk3 => k_asm); (case kqk4 => k_asm); (case kqkm => k_mem); (case kqk5 => k_asm); (case kqkK => first | exact rfl | assumption); (case kqkd => ktr_room); (case kqku => ktr_units); k_whole); intro r' vs' n' h' tk' D' S' F' N'; (replace D' := allNeA_of D'); (simp only [AllNeA, and_true] at D'); (repeat (obtain ⟨_, D'⟩ := D')); (try k_sweep))
  k_with "call ref" => (k_here; (with_reducible show wpAny _ _ (call (Value.ref 243) _) _ _ _); k_dflt (refine' go_file ?kqh1 ?kqh2 ?kqh3 ?kqk1 ?kqk2 ?kqk3 ?kqk4 ?kqk5 ?kqkK ?kqkd ?kqku ?kqkm ?_; (case kqh1 => assumption); (case kqh2 => assumption); (case kqh3 => omega); (case kqk1 => k_asm); (case kqk2 => k_asm); (case kqk3 => k_asm); (case kqk4 => k_asm); (case kqkm => k_mem); (case kqk5 => k_asm); (case kqkK => first | exact rfl | assumption); (case kqkd => ktr_room); (case kqku => ktr_units); k_whole); intro r' vs' n' h' tk' D' S' F' N'; (replace D' := allNeA_of D'); (simp only [AllNeA, and_true] at D'); (repeat (obtain ⟨_, D'⟩ := D')); (try k_sweep))
  k_with "call ref" => (k_here; (with_reducible show wpAny _ _ (call (Value.ref 248) _) _ _ _); k_dflt (refine' least_spec ?kqh1 ?kqh2 ?kqk1 ?kqk2 ?kqk3 ?kqk4 ?kqk5 ?kqkK ?kqkd ?kqku ?kqkm ?_; (case kqk1 => k_asm); (case kqk2 => k_asm); (case kqk3 => k_asm); (case kqk4 => k_asm); (case kqkm => k_mem); (case kqh1 => refine HeldIn.mono ?kqhs (by assumption); intro p hp; k_mem); (case kqh2 => first | assumption | omega); (case kqk5 => k_asm); (case kqkK => first | exact rfl | assumption); (case kqkd => ktr_room); (case kqku => ktr_units); k_whole); intro r' t' h' tk' L' F' N'; (try k_sweep))
  k_with "binaryOp Mod int int" => (k_here; k_dflt (refine' s_mod ?kqf ?kqb ?_; (case kqf => assumption); (case kqb => omega); k_whole); intro t' k')
  k_with "binaryOp FloorDiv int int" => (k_here; k_dflt (refine' s_div ?kqf ?kqb ?kqc ?_; (case kqf => assumption); (case kqb => omega); (case kqc => omega); k_whole); intro t' k')
  k_with "subscriptTail Name BinOp ref int" => (k_here; k_dflt (refine' l_itemAs ?kqh ?kqn ?kqm ?_ ?kqk6; (case kqn => k_asm); (case kqm => k_mem); (case kqh => assumption); (case kqk6 => with_unfolding_all rfl); k_whole))
  k_with "compareOp Eq ref ref" => (k_here; k_dflt (refine' l_eqNil ?kqn ?kqm ?kqm2 ?kqhh ?kqht ?kqho ?kqhu ?kqhb ?_; (case kqn => k_asm); (case kqm => k_mem); (case kqm2 => k_mem); (case kqhh => assumption); (case kqht => (intro p hp; k_mem)); (case kqho => assumption); (case kqhb => assumption); (case kqhu => ktr_units); k_whole))
  k_with "call builtin:len" => (k_here; k_dflt (refine' l_len ?kqn ?kqm ?kqz ?_; (case kqn => k_asm); (case kqm => k_mem); (case kqz => omega); k_whole); intro t' k')
  k_with "call builtin:list.append" => (k_here; k_dflt (refine' l_append ?kqk1 ?kqk2 ?kqk3 ?kqz ?_; (case kqk1 => k_asm); (case kqk2 => k_asm); (case kqk3 => k_upd); (case kqz => omega); k_whole); intro h' F' N'; (try k_sweep))
  k_with "binaryOp Add ref ref" => (k_here; k_dflt (refine' l_cat ?kqF ?kqN ?kqa ?kqb ?kqz ?_; (case kqF => k_asm); (case kqN => k_asm); (case kqa => k_mem); (case kqb => k_mem); (case kqz => first | omega | (simp only [List.length_append, List.length_cons, List.length_nil, List.length_take, List.length_drop]; omega)); k_whole); intro D' h' F' N' l1; (try k_lt l1); (try k_sweep))
  k_with "subscriptTail Name Slice ref ref" => (k_here; k_dflt (refine' l_slice ?kqF ?kqN ?kqa ?kqp ?kqq ?kqe ?kqz ?_ ?kqs ?kqt; (case kqF => k_asm); (case kqN => k_asm); (case kqa => k_mem); (case kqp => constructor); (case kqq => constructor); (case kqe => assumption); (case kqz => omega); (case kqs => with_unfolding_all rfl); (case kqt => (intro _; with_unfolding_all rfl)); k_whole); intro D' h' F' N' l1; (try k_lt l1); (try k_sweep))
  k_with "call builtin:str.join" => (k_here; k_dflt (refine' l_join ?kqk1 ?kqk2 ?kqk3 ?kqz ?_; (case kqk1 => k_asm); (case kqk2 => k_mem); (case kqk3 => assumption); (case kqz => assumption); k_whole); intro t' k')
  k_with "binaryOp Add str str" => (k_here; k_dflt (refine' s_add ?kqz ?_; (case kqz => first | assumption | omega); k_whole); intro t' k')
  k_with "subscriptTail Name UnaryOp ref int" => (k_here; (with_reducible show wpAny _ _ (subscriptTail _ _ (Value.ref _) (Value.int _ _)) _ _ _); k_dflt (refine' l_last ?kqk1 ?kqk2 ?_ ?kqk6; (case kqk1 => k_asm); (case kqk2 => k_mem); (case kqk6 => with_unfolding_all rfl); k_whole))
  k_with "compareOp Eq int int" => (k_here; refine' s_eqI ?kqf ?_; (case kqf => with_reducible assumption); k_whole)
  k_with "compareOp Lt int int" => (k_here; refine' s_ltI ?kqf ?_; (case kqf => with_reducible assumption); k_whole)
  trivial
theorem due_tf {g₀ h : Heap} {L₂ ll lw lf lnum lh ln It : Addr} {oI : Obj} {QF : Flow → Shared → Prop} {ns : List Int} {mz m₁ : Str → Option Value} {i j : Nat} {x v κ : Int} {wd fd : Str} {t tw tf : Tok} {vH vN vL vw vf vsN : List Value} {nH nN nL nw nf n tk : Nat} {tl : List (Addr × Obj)} {d : DS}
   (B : Below (ktrTop dp un gd cn cs L a ccd cl outer) base (envX cn cs L a ccd cl :: outer) g₀) (X : (hd.heap_39 w.params).In g₀) (T : Top hd.view_39 (looseW hd.view_39 []) mean mg mb g₀) (hk : cs.kind = .function) (hdp : dp + 5 < recursionLimit) (hun : un + 100 < cLine)
   (hxi : ns[i]? = some x) (hS : DueS ll lw lf ns mz i m₁ lh ln vH vN vL nH nN tl d) (hne : ∀ p ∈ tl, p.1 ≠ It) (hnI : ∀ p ∈ [ll, lw, lf, lnum], p ≠ It) (lo : @Ne Nat lw ll ∧ @Ne Nat lf ll ∧ @Ne Nat lnum ll) (FF : DueF ns i x v κ j wd fd tw tf vH vN vL vw vf d) (hc : κ = 0 ∨ κ = 1 ∨ κ = 5) (hl4 : d.held.length = 4)
   (F1 : Fr g₀ L₂ h (fun y => if y = Str.ofString "x" then some (.int x t) else dueFr mz m₁ ll lw lf lh ln y))
   (N1 : News g₀ L₂ h ((ll, listOf vL.toArray nL) :: (lw, listOf vw.toArray nw) :: (lf, listOf vf.toArray nf) :: (lnum, listOf vsN.toArray n) :: (It, oI) :: tl)) :
   wpAny (model Challenge.rw_pd0171_01.row.prog w) ((ktrTop dp un gd cn cs L a ccd cl outer).deeper (envOf (Str.ofString "_law_due") (fnScope w.params 255) L₂ 255 (.ref 254))) (execs (forBody (fnBody w.params 255)) (envOf (Str.ofString "_law_due") (fnScope w.params 255) L₂ 255 (.ref 254))) (GEnd (fun g => g = g₀) (envOf (Str.ofString "_law_due") (fnScope w.params 255) L₂ 255 (.ref 254)).locals lnum It oI (listOf vsN.toArray n) (DueJ ⟨ll, lw, lf, lnum, vw, vf, vsN, nw, nf, n⟩ ns mz (i + 1)) s QF) E { s with heap := h, toks := tk } := by
  revert X
  k_fill
  intro X
  obtain ⟨nI1, nI2, nI3, nI4⟩ := nI_A4 hnI
  obtain ⟨lo1', lo2', lo3'⟩ := lo
  have lo1 : NeA _ _ := ⟨lo1'⟩
  have lo2 : NeA _ _ := ⟨lo2'⟩
  have lo3 : NeA _ _ := ⟨lo3'⟩
  clear lo1' lo2' lo3'
  have mh := hS.mh
  have mn := hS.mn
  have hoff := off_of hS.ne
  have hin := hS.hin
  have hdl := hS.dl
  have sN := hS.sn
  obtain ⟨hok, hk6, hkk, hv, hv2, hj, hj5, hj2, hwd, hfd, hW, hF, lN, lH, lL, b1, b2, b3, b4, hho, hw4, hw5, hf4, hf5⟩ := FF
  (with_unfolding_all conv in (forBody _) => whnf)
  (with_unfolding_all conv in (occs := *) (fnScope _ _) => all_goals whnf)
  have q3 : (κ == 3) = false := eqI_f (by omega)
  have q2 : (κ == 2) = false := eqI_f (by omega)
  have q4 : (κ == 4) = false := eqI_f (by omega)
  have ql : ((vH.length : Int) == 4) = true := eqI_t (by omega)
  have qm : decide ((vH.length : Int) < 4) = false := ltI_f (by omega)
  have hst : step d x = _ := step_full (x := x) (by omega) hl4
  clear hc
  k_steps
  all_goals exact due_fin0 (c := ⟨ll, lw, lf, lnum, vw, vf, vsN, nw, nf, n⟩) (.inl rfl) ⟨by k_asm, by k_asm, ⟨List.forall_mem_cons.mpr ⟨by with_unfolding_all rfl, List.forall_mem_cons.mpr ⟨by with_unfolding_all rfl, List.forall_mem_cons.mpr ⟨by with_unfolding_all rfl, List.forall_mem_cons.mpr ⟨by with_unfolding_all rfl, List.forall_mem_cons.mpr ⟨by with_unfolding_all rfl, List.forall_mem_nil _⟩⟩⟩⟩⟩, fun z hz hs => by (obtain ⟨z1, z2, z3, z4, z5, z6, z7⟩ := dueZ hs; simp only [if_neg z1, if_neg z2, if_neg z3, if_neg z4, if_neg z5, if_neg z6, if_neg z7]; exact due_base hz hs)⟩, hxi, hS.ed, by k_mem, by k_mem, by k_mem, by k_mem, hnI, (fun p hp => by k_mem), hne, hS.ne⟩ hst.symm (by k_mem) mh mn sN hin (hdl.append (.one (.str _ _)))
end
end
section
open PySem PySem.W PyProof.Rows PySem.Calls PySem.Spec
set_option maxRecDepth 100000
set_option maxHeartbeats 0
theorem lines_C9t5_1 : True := by
  k_with_none
  k_with "eval Constant int" => (refine flat_int ?_)
  k_with "eval Constant str" => (refine flat_str ?_)
  k_with "call builtin:issubclass" => (k_here; k_dflt (refine' issub_call ?kqk1 ?_; (case kqk1 => exact News.get (by k_asm) (by k_mem)); k_whole); intro tk)
  k_with "callWith" => (k_here; (with_reducible show wpAny _ _ (callWith _ (Value.builtin _) (_ :: _) _ _) _ _ _); refine callWith_method1 ?_)
  trivial
section
variable {w : World} {mean : ExcName → Option Value} {mg mb : Str → Option Value} {dp un : Nat} {gd : Option (List Code)} {cn : Str} {cs : Scope} {a : Addr} {ccd : Value} {cl : List (Str × Addr)} {outer : List Env} {A₀ : Around} {base h₀ : Heap} {L : Addr} {m : Str → Option Value} {news : List (Addr × Obj)} {s : Shared} {Q E : Value → Shared → Prop}

theorem lines_C9t5_2 : True := by
  k_with "callWith" => (k_here; (with_reducible show wpAny _ _ (callWith _ (Value.builtin _) (_ :: _) _ _) _ _ _); refine callWith_method1 ?_)
  k_with "call ref" => (k_here; (with_reducible show wpAny _ _ (call (Value.ref 222) _) _ _ _); k_dflt (refine' words_spec ?kqk1 ?kqk2 ?kqk3 ?kqk4 ?kqk5 ?kqkK ?kqkd ?kqku ?_; (case kqk1 => k_asm); (case kqk2 => k_asm); (case kqk3 => k_asm); (case kqk4 => k_asm); (case kqk5 => k_asm); (case kqkK => first | exact rfl | assumption); (case kqkd => ktr_room); (case kqku => ktr_units); k_whole); intro D' lf' lw' vf' vw' nf' nw' h' tk' lA' lB' sF' sW' F' N'; (replace lA' := ltN lA'); (replace lB' := ltN lB'); (try k_sweep))
  k_with "call ref" => (k_here; (with_reducible show wpAny _ _ (call (Value.ref 243) _) _ _ _); k_dflt (refine' go_way ?kqh1 ?kqh2 ?kqh3 ?kqk1 ?kqk2 ?kqk3 ?kqk4 ?kqk5 ?kqkK ?kqkd ?kqku ?kqkm ?_; (case kqh1 => assumption); (case kqh2 => assumption); (case kqh3 => omega); (case kqk1 => k_asm); (case kqk2 => k_asm); (case kqk3 => k_asm); (case kqk4 => k_asm); (case kqkm => k_mem); (case kqk5 => k_asm); (case kqkK => first | exact rfl | assumption); (case kqkd => ktr_room); (case kqku => ktr_units); k_whole); intro r' vs' n' h' tk' D' S' F' N'; (replace D' := allNeA_of D'); (simp only [AllNeA, and_true] at D'); (repeat (obtain ⟨_, D'⟩ := D')); (try k_sweep))
  k_with "call ref" => (k_here; (with_reducible show wpAny _ _ (call (Value.ref 243) _) _ _ _); k_dflt (refine' go_file ?kqh1 ?kqh2 ?kqh3 ?kqk1 ?kqk2 ?kqk3 ?kqk4 ?kqk5 ?kqkK ?kqkd ?kqku ?kqkm ?_; (case kqh1 => assumption); (case kqh2 => assumption); (case kqh3 => omega); (case kqk1 => k_asm); (case kqk2 => k_asm); (case kqk3 => k_asm); (case kqk4 => k_asm); (case kqkm => k_mem); (case kqk5 => k_asm); (case kqkK => first | exact rfl | assumption); (case kqkd => ktr_room); (case kqku => ktr_units); k_whole); intro r' vs' n' h' tk' D' S' F' N'; (replace D' := allNeA_of D'); (simp only [AllNeA, and_true] at D'); (repeat (obtain ⟨_, D'⟩ := D')); (try k_sweep))
  k_with "call ref" => (k_here; (with_reducible show wpAny _ _ (call (Value.ref 248) _) _ _ _); k_dflt (refine' least_spec ?kqh1 ?kqh2 ?kqk1 ?kqk2 ?kqk3 ?kqk4 ?kqk5 ?kqkK ?kqkd ?kqku ?kqkm ?_; (case kqk1 => k_asm); (case kqk2 => k_asm); (case kqk3 => k_asm); (case kqk4 => k_asm); (case kqkm => k_mem); (case kqh1 => refine HeldIn.mono ?kqhs (by assumption); intro p hp; k_mem); (case kqh2 => first | assumption | omega); (case kqk5 => k_asm); (case kqkK => first | exact rfl | assumption); (case kqkd => ktr_room); (case kqku => ktr_units); k_whole); intro r' t' h' tk' L' F' N'; (try k_sweep))
  k_with "binaryOp Mod int int" => (k_here; k_dflt (refine' s_mod ?kqf ?kqb ?_; (case kqf => assumption); (case kqb => omega); k_whole); intro t' k')
  k_with "binaryOp FloorDiv int int" => (k_here; k_dflt (refine' s_div ?kqf ?kqb ?kqc ?_; (case kqf => assumption); (case kqb => omega); (case kqc => omega); k_whole); intro t' k')
  k_with "subscriptTail Name BinOp ref int" => (k_here; k_dflt (refine' l_itemAs ?kqh ?kqn ?kqm ?_ ?kqk6; (case kqn => k_asm); (case kqm => k_mem); (case kqh => assumption); (case kqk6 => with_unfolding_all rfl); k_whole))
  k_with "compareOp Eq ref ref" => (k_here; k_dflt (refine' l_eqNil ?kqn ?kqm ?kqm2 ?kqhh ?kqht ?kqho ?kqhu ?kqhb ?_; (case kqn => k_asm); (case kqm => k_mem); (case kqm2 => k_mem); (case kqhh => assumption); (case kqht => (intro p hp; k_mem)); (case kqho => assumption); (case kqhb => assumption); (case kqhu => ktr_units); k_whole))
  k_with "call builtin:len" => (k_here; k_dflt (refine' l_len ?kqn ?kqm ?kqz ?_; (case kqn => k_asm); (case kqm => k_mem); (case kqz => omega); k_whole); intro t' k')
  k_with "call builtin:list.append" => (k_here; k_dflt (refine' l_append ?kqk1 ?kqk2 ?kqk3 ?kqz ?_; (case kqk1 => k_asm); (case kqk2 => k_asm); (case kqk3 => k_upd); (case kqz => omega); k_whole); intro h' F' N'; (try k_sweep))
  k_with "binaryOp Add ref ref" => (k_here; k_dflt (refine' l_cat ?kqF ?kqN ?kqa ?kqb ?kqz ?_; (case kqF => k_asm); (case kqN => k_asm); (case kqa => k_mem); (case kqb => k_mem); (case kqz => first | omega | (simp only [List.length_append, List.length_cons, List.length_nil, List.length_take, List.length_drop]; omega)); k_whole); intro D' h' F' N' l1; (try k_lt l1); (try k_sweep))
  k_with "subscriptTail Name Slice ref ref" => (k_here; k_dflt (refine' l_slice ?kqF ?kqN ?kqa ?kqp ?kqq ?kqe ?kqz ?_ ?kqs ?kqt; (case kqF => k_asm); (case kqN => k_asm); (case kqa => k_mem); (case kqp => constructor); (case kqq => constructor); (case kqe => assumption); (case kqz => omega); (case kqs => with_unfolding_all rfl); (case kqt => (intro _; with_unfolding_all rfl)); k_whole); intro D' h' F' N' l1; (try k_lt l1); (try k_sweep))
  k_with "call builtin:str.join" => (k_here; k_dflt (refine' l_join ?kqk1 ?kqk2 ?kqk3 ?kqz ?_; (case kqk1 => k_asm); (case kqk2 => k_mem); (case kqk3 => assumption); (case kqz => assumption); k_whole); intro t' k')
  k_with "binaryOp Add str str" => (k_here; k_dflt (refine' s_add ?kqz ?_; (case kqz => first | assumption | omega); k_whole); intro t' k')
  k_with "subscriptTail Name UnaryOp ref int" => (k_here; (with_reducible show wpAny _ _ (subscriptTail _ _ (Value.ref _) (Value.int _ _)) _ _ _); k_dflt (refine' l_last ?kqk1 ?kqk2 ?_ ?kqk6; (case kqk1 => k_asm); (case kqk2 => k_mem); (case kqk6 => with_unfolding_all rfl); k_whole))
  k_with "compareOp Eq int int" => (k_here; refine' s_eqI ?kqf ?_; (case kqf => with_reducible assumption); k_whole)
  k_with "compareOp Lt int int" => (k_here; refine' s_ltI ?kqf ?_; (case kqf => with_reducible assumption); k_whole)
  trivial
theorem due_t5 {g₀ h : Heap} {L₂ ll lw lf lnum lh ln It : Addr} {oI : Obj} {QF : Flow → Shared → Prop} {ns : List Int} {mz m₁ : Str → Option Value} {i j : Nat} {x v κ : Int} {wd fd : Str} {t tw tf : Tok} {vH vN vL vw vf vsN : List Value} {nH nN nL nw nf n tk : Nat} {tl : List (Addr × Obj)} {d : DS}
   (B : Below (ktrTop dp un gd cn cs L a ccd cl outer) base (envX cn cs L a ccd cl :: outer) g₀) (X : (hd.heap_39 w.params).In g₀) (T : Top hd.view_39 (looseW hd.view_39 []) mean mg mb g₀) (hk : cs.kind = .function) (hdp : dp + 5 < recursionLimit) (hun : un + 100 < cLine)
   (hxi : ns[i]? = some x) (hS : DueS ll lw lf ns mz i m₁ lh ln vH vN vL nH nN tl d) (hne : ∀ p ∈ tl, p.1 ≠ It) (hnI : ∀ p ∈ [ll, lw, lf, lnum], p ≠ It) (lo : @Ne Nat lw ll ∧ @Ne Nat lf ll ∧ @Ne Nat lnum ll) (FF : DueF ns i x v κ j wd fd tw tf vH vN vL vw vf d) (hc : κ = 5) (hl4 : ¬ d.held.length = 4)
   (F1 : Fr g₀ L₂ h (fun y => if y = Str.ofString "x" then some (.int x t) else dueFr mz m₁ ll lw lf lh ln y))
   (N1 : News g₀ L₂ h ((ll, listOf vL.toArray nL) :: (lw, listOf vw.toArray nw) :: (lf, listOf vf.toArray nf) :: (lnum, listOf vsN.toArray n) :: (It, oI) :: tl)) :
   wpAny (model Challenge.rw_pd0171_01.row.prog w) ((ktrTop dp un gd cn cs L a ccd cl outer).deeper (envOf (Str.ofString "_law_due") (fnScope w.params 255) L₂ 255 (.ref 254))) (execs (forBody (fnBody w.params 255)) (envOf (Str.ofString "_law_due") (fnScope w.params 255) L₂ 255 (.ref 254))) (GEnd (fun g => g = g₀) (envOf (Str.ofString "_law_due") (fnScope w.params 255) L₂ 255 (.ref 254)).locals lnum It oI (listOf vsN.toArray n) (DueJ ⟨ll, lw, lf, lnum, vw, vf, vsN, nw, nf, n⟩ ns mz (i + 1)) s QF) E { s with heap := h, toks := tk } := by
  revert X
  k_fill
  intro X
  obtain ⟨nI1, nI2, nI3, nI4⟩ := nI_A4 hnI
  obtain ⟨lo1', lo2', lo3'⟩ := lo
  have lo1 : NeA _ _ := ⟨lo1'⟩
  have lo2 : NeA _ _ := ⟨lo2'⟩
  have lo3 : NeA _ _ := ⟨lo3'⟩
  clear lo1' lo2' lo3'
  have mh := hS.mh
  have mn := hS.mn
  have hoff := off_of hS.ne
  have hin := hS.hin
  have hdl := hS.dl
  have sN := hS.sn
  obtain ⟨hok, hk6, hkk, hv, hv2, hj, hj5, hj2, hwd, hfd, hW, hF, lN, lH, lL, b1, b2, b3, b4, hho, hw4, hw5, hf4, hf5⟩ := FF
  (with_unfolding_all conv in (forBody _) => whnf)
  (with_unfolding_all conv in (occs := *) (fnScope _ _) => all_goals whnf)
  subst hc
  have ql : ((vH.length : Int) == 4) = false := eqI_f (by omega)
  have qm : decide ((vH.length : Int) < 4) = true := ltI_t (by omega)
  k_steps
  exact due_fin0 (c := ⟨ll, lw, lf, lnum, vw, vf, vsN, nw, nf, n⟩) (.inl rfl) ⟨by k_asm, by k_asm, ⟨List.forall_mem_cons.mpr ⟨by with_unfolding_all rfl, List.forall_mem_cons.mpr ⟨by with_unfolding_all rfl, List.forall_mem_cons.mpr ⟨by with_unfolding_all rfl, List.forall_mem_cons.mpr ⟨by with_unfolding_all rfl, List.forall_mem_cons.mpr ⟨by with_unfolding_all rfl, List.forall_mem_nil _⟩⟩⟩⟩⟩, fun z hz hs => by (obtain ⟨z1, z2, z3, z4, z5, z6, z7⟩ := dueZ hs; simp only [if_neg z1, if_neg z2, if_neg z3, if_neg z4, if_neg z5, if_neg z6, if_neg z7]; exact due_base hz hs)⟩, hxi, hS.ed, by k_mem, by k_mem, by k_mem, by k_mem, hnI, (fun p hp => by k_mem), hne, hS.ne⟩ (step_mark hkk hl4).symm (by k_mem) mh mn sN hin (hdl.append (.one (.str _ _)))
end
end
section
open PySem PySem.W PyProof.Rows PySem.Calls PySem.Spec
set_option maxRecDepth 100000
set_option maxHeartbeats 0
theorem lines_C9to_1 : True := by
  k_with_none
  k_with "eval Constant int" => (refine flat_int ?_)
  k_with "eval Constant str" => (refine flat_str ?_)
  k_with "call builtin:issubclass" => (k_here; k_dflt (refine' issub_call ?kqk1 ?_; (case kqk1 => exact News.get (by k_asm) (by k_mem)); k_whole); intro tk)
  k_with "callWith" => (k_here; (with_reducible show wpAny _ _ (callWith _ (Value.builtin _) (_ :: _) _ _) _ _ _); refine callWith_method1 ?_)
  trivial
section
variable {w : World} {mean : ExcName → Option Value} {mg mb : Str → Option Value} {dp un : Nat} {gd : Option (List Code)} {cn : Str} {cs : Scope} {a : Addr} {ccd : Value} {cl : List (Str × Addr)} {outer : List Env} {A₀ : Around} {base h₀ : Heap} {L : Addr} {m : Str → Option Value} {news : List (Addr × Obj)} {s : Shared} {Q E : Value → Shared → Prop}

theorem lines_C9to_2 : True := by
  k_with "callWith" => (k_here; (with_reducible show wpAny _ _ (callWith _ (Value.builtin _) (_ :: _) _ _) _ _ _); refine callWith_method1 ?_)
  k_with "call ref" => (k_here; (with_reducible show wpAny _ _ (call (Value.ref 222) _) _ _ _); k_dflt (refine' words_spec ?kqk1 ?kqk2 ?kqk3 ?kqk4 ?kqk5 ?kqkK ?kqkd ?kqku ?_; (case kqk1 => k_asm); (case kqk2 => k_asm); (case kqk3 => k_asm); (case kqk4 => k_asm); (case kqk5 => k_asm); (case kqkK => first | exact rfl | assumption); (case kqkd => ktr_room); (case kqku => ktr_units); k_whole); intro D' lf' lw' vf' vw' nf' nw' h' tk' lA' lB' sF' sW' F' N'; (replace lA' := ltN lA'); (replace lB' := ltN lB'); (try k_sweep))
  k_with "call ref" => (k_here; (with_reducible show wpAny _ _ (call (Value.ref 243) _) _ _ _); k_dflt (refine' go_way ?kqh1 ?kqh2 ?kqh3 ?kqk1 ?kqk2 ?kqk3 ?kqk4 ?kqk5 ?kqkK ?kqkd ?kqku ?kqkm ?_; (case kqh1 => assumption); (case kqh2 => assumption); (case kqh3 => omega); (case kqk1 => k_asm); (case kqk2 => k_asm); (case kqk3 => k_asm); (case kqk4 => k_asm); (case kqkm => k_mem); (case kqk5 => k_asm); (case kqkK => first | exact rfl | assumption); (case kqkd => ktr_room); (case kqku => ktr_units); k_whole); intro r' vs' n' h' tk' D' S' F' N'; (replace D' := allNeA_of D'); (simp only [AllNeA, and_true] at D'); (repeat (obtain ⟨_, D'⟩ := D')); (try k_sweep))
  k_with "call ref" => (k_here; (with_reducible show wpAny _ _ (call (Value.ref 243) _) _ _ _); k_dflt (refine' go_file ?kqh1 ?kqh2 ?kqh3 ?kqk1 ?kqk2 ?kqk3 ?kqk4 ?kqk5 ?kqkK ?kqkd ?kqku ?kqkm ?_; (case kqh1 => assumption); (case kqh2 => assumption); (case kqh3 => omega); (case kqk1 => k_asm); (case kqk2 => k_asm); (case kqk3 => k_asm); (case kqk4 => k_asm); (case kqkm => k_mem); (case kqk5 => k_asm); (case kqkK => first | exact rfl | assumption); (case kqkd => ktr_room); (case kqku => ktr_units); k_whole); intro r' vs' n' h' tk' D' S' F' N'; (replace D' := allNeA_of D'); (simp only [AllNeA, and_true] at D'); (repeat (obtain ⟨_, D'⟩ := D')); (try k_sweep))
  k_with "call ref" => (k_here; (with_reducible show wpAny _ _ (call (Value.ref 248) _) _ _ _); k_dflt (refine' least_spec ?kqh1 ?kqh2 ?kqk1 ?kqk2 ?kqk3 ?kqk4 ?kqk5 ?kqkK ?kqkd ?kqku ?kqkm ?_; (case kqk1 => k_asm); (case kqk2 => k_asm); (case kqk3 => k_asm); (case kqk4 => k_asm); (case kqkm => k_mem); (case kqh1 => refine HeldIn.mono ?kqhs (by assumption); intro p hp; k_mem); (case kqh2 => first | assumption | omega); (case kqk5 => k_asm); (case kqkK => first | exact rfl | assumption); (case kqkd => ktr_room); (case kqku => ktr_units); k_whole); intro r' t' h' tk' L' F' N'; (try k_sweep))
  k_with "binaryOp Mod int int" => (k_here; k_dflt (refine' s_mod ?kqf ?kqb ?_; (case kqf => assumption); (case kqb => omega); k_whole); intro t' k')
  k_with "binaryOp FloorDiv int int" => (k_here; k_dflt (refine' s_div ?kqf ?kqb ?kqc ?_; (case kqf => assumption); (case kqb => omega); (case kqc => omega); k_whole); intro t' k')
  k_with "subscriptTail Name BinOp ref int" => (k_here; k_dflt (refine' l_itemAs ?kqh ?kqn ?kqm ?_ ?kqk6; (case kqn => k_asm); (case kqm => k_mem); (case kqh => assumption); (case kqk6 => with_unfolding_all rfl); k_whole))
  k_with "compareOp Eq ref ref" => (k_here; k_dflt (refine' l_eqNil ?kqn ?kqm ?kqm2 ?kqhh ?kqht ?kqho ?kqhu ?kqhb ?_; (case kqn => k_asm); (case kqm => k_mem); (case kqm2 => k_mem); (case kqhh => assumption); (case kqht => (intro p hp; k_mem)); (case kqho => assumption); (case kqhb => assumption); (case kqhu => ktr_units); k_whole))
  k_with "call builtin:len" => (k_here; k_dflt (refine' l_len ?kqn ?kqm ?kqz ?_; (case kqn => k_asm); (case kqm => k_mem); (case kqz => omega); k_whole); intro t' k')
  k_with "call builtin:list.append" => (k_here; k_dflt (refine' l_append ?kqk1 ?kqk2 ?kqk3 ?kqz ?_; (case kqk1 => k_asm); (case kqk2 => k_asm); (case kqk3 => k_upd); (case kqz => omega); k_whole); intro h' F' N'; (try k_sweep))
  k_with "binaryOp Add ref ref" => (k_here; k_dflt (refine' l_cat ?kqF ?kqN ?kqa ?kqb ?kqz ?_; (case kqF => k_asm); (case kqN => k_asm); (case kqa => k_mem); (case kqb => k_mem); (case kqz => first | omega | (simp only [List.length_append, List.length_cons, List.length_nil, List.length_take, List.length_drop]; omega)); k_whole); intro D' h' F' N' l1; (try k_lt l1); (try k_sweep))
  k_with "subscriptTail Name Slice ref ref" => (k_here; k_dflt (refine' l_slice ?kqF ?kqN ?kqa ?kqp ?kqq ?kqe ?kqz ?_ ?kqs ?kqt; (case kqF => k_asm); (case kqN => k_asm); (case kqa => k_mem); (case kqp => constructor); (case kqq => constructor); (case kqe => assumption); (case kqz => omega); (case kqs => with_unfolding_all rfl); (case kqt => (intro _; with_unfolding_all rfl)); k_whole); intro D' h' F' N' l1; (try k_lt l1); (try k_sweep))
  k_with "call builtin:str.join" => (k_here; k_dflt (refine' l_join ?kqk1 ?kqk2 ?kqk3 ?kqz ?_; (case kqk1 => k_asm); (case kqk2 => k_mem); (case kqk3 => assumption); (case kqz => assumption); k_whole); intro t' k')
  k_with "binaryOp Add str str" => (k_here; k_dflt (refine' s_add ?kqz ?_; (case kqz => first | assumption | omega); k_whole); intro t' k')
  k_with "subscriptTail Name UnaryOp ref int" => (k_here; (with_reducible show wpAny _ _ (subscriptTail _ _ (Value.ref _) (Value.int _ _)) _ _ _); k_dflt (refine' l_last ?kqk1 ?kqk2 ?_ ?kqk6; (case kqk1 => k_asm); (case kqk2 => k_mem); (case kqk6 => with_unfolding_all rfl); k_whole))
  k_with "compareOp Eq int int" => (k_here; refine' s_eqI ?kqf ?_; (case kqf => with_reducible assumption); k_whole)
  k_with "compareOp Lt int int" => (k_here; refine' s_ltI ?kqf ?_; (case kqf => with_reducible assumption); k_whole)
  trivial
theorem due_to {g₀ h : Heap} {L₂ ll lw lf lnum lh ln It : Addr} {oI : Obj} {QF : Flow → Shared → Prop} {ns : List Int} {mz m₁ : Str → Option Value} {i j : Nat} {x v κ : Int} {wd fd : Str} {t tw tf : Tok} {vH vN vL vw vf vsN : List Value} {nH nN nL nw nf n tk : Nat} {tl : List (Addr × Obj)} {d : DS}
   (B : Below (ktrTop dp un gd cn cs L a ccd cl outer) base (envX cn cs L a ccd cl :: outer) g₀) (X : (hd.heap_39 w.params).In g₀) (T : Top hd.view_39 (looseW hd.view_39 []) mean mg mb g₀) (hk : cs.kind = .function) (hdp : dp + 5 < recursionLimit) (hun : un + 100 < cLine)
   (hxi : ns[i]? = some x) (hS : DueS ll lw lf ns mz i m₁ lh ln vH vN vL nH nN tl d) (hne : ∀ p ∈ tl, p.1 ≠ It) (hnI : ∀ p ∈ [ll, lw, lf, lnum], p ≠ It) (lo : @Ne Nat lw ll ∧ @Ne Nat lf ll ∧ @Ne Nat lnum ll) (FF : DueF ns i x v κ j wd fd tw tf vH vN vL vw vf d) (hc : κ = 0 ∨ κ = 1) (hl4 : ¬ d.held.length = 4)
   (F1 : Fr g₀ L₂ h (fun y => if y = Str.ofString "x" then some (.int x t) else dueFr mz m₁ ll lw lf lh ln y))
   (N1 : News g₀ L₂ h ((ll, listOf vL.toArray nL) :: (lw, listOf vw.toArray nw) :: (lf, listOf vf.toArray nf) :: (lnum, listOf vsN.toArray n) :: (It, oI) :: tl)) :
   wpAny (model Challenge.rw_pd0171_01.row.prog w) ((ktrTop dp un gd cn cs L a ccd cl outer).deeper (envOf (Str.ofString "_law_due") (fnScope w.params 255) L₂ 255 (.ref 254))) (execs (forBody (fnBody w.params 255)) (envOf (Str.ofString "_law_due") (fnScope w.params 255) L₂ 255 (.ref 254))) (GEnd (fun g => g = g₀) (envOf (Str.ofString "_law_due") (fnScope w.params 255) L₂ 255 (.ref 254)).locals lnum It oI (listOf vsN.toArray n) (DueJ ⟨ll, lw, lf, lnum, vw, vf, vsN, nw, nf, n⟩ ns mz (i + 1)) s QF) E { s with heap := h, toks := tk } := by
  revert X
  k_fill
  intro X
  obtain ⟨nI1, nI2, nI3, nI4⟩ := nI_A4 hnI
  obtain ⟨lo1', lo2', lo3'⟩ := lo
  have lo1 : NeA _ _ := ⟨lo1'⟩
  have lo2 : NeA _ _ := ⟨lo2'⟩
  have lo3 : NeA _ _ := ⟨lo3'⟩
  clear lo1' lo2' lo3'
  have mh := hS.mh
  have mn := hS.mn
  have hoff := off_of hS.ne
  have hin := hS.hin
  have hdl := hS.dl
  have sN := hS.sn
  obtain ⟨hok, hk6, hkk, hv, hv2, hj, hj5, hj2, hwd, hfd, hW, hF, lN, lH, lL, b1, b2, b3, b4, hho, hw4, hw5, hf4, hf5⟩ := FF
  (with_unfolding_all conv in (forBody _) => whnf)
  (with_unfolding_all conv in (occs := *) (fnScope _ _) => all_goals whnf)
  have hl3 := le3_of b2 hl4
  have ql : ((vH.length : Int) == 4) = false := eqI_f (by omega)
  have qm : decide ((vH.length : Int) < 4) = true := ltI_t (by omega)
  have q3 : (κ == 3) = false := eqI_f (by omega)
  have q2 : (κ == 2) = false := eqI_f (by omega)
  have q4 : (κ == 4) = false := eqI_f (by omega)
  have q5 : (κ == 5) = false := eqI_f (by omega)
  have qn : decide (κ < 2) = true := ltI_t (by omega)
  have hst : step d x = _ := step_open (x := x) (by omega) hl4 (hv2 ▸ hj)
  clear hc hwd hW hw4 hw5
  k_steps
  exact due_finO (r := D') (j := j) (c := ⟨ll, lw, lf, lnum, vw, vf, vsN, nw, nf, n⟩) ⟨by k_asm, by k_asm, ⟨List.forall_mem_cons.mpr ⟨by with_unfolding_all rfl, List.forall_mem_cons.mpr ⟨by with_unfolding_all rfl, List.forall_mem_cons.mpr ⟨by with_unfolding_all rfl, List.forall_mem_cons.mpr ⟨by with_unfolding_all rfl, List.forall_mem_cons.mpr ⟨by with_unfolding_all rfl, List.forall_mem_nil _⟩⟩⟩⟩⟩, fun z hz hs => by (obtain ⟨z1, z2, z3, z4, z5, z6, z7⟩ := dueZ hs; simp only [if_neg z1, if_neg z2, if_neg z3, if_neg z4, if_neg z5, if_neg z6, if_neg z7]; exact due_base hz hs)⟩, hxi, hS.ed, by k_mem, by k_mem, by k_mem, by k_mem, hnI, (fun p hp => by k_mem), hne, hS.ne⟩ hst (by assumption) (by k_mem) (by k_mem) (by k_mem) (by k_mem) (by k_ne) (by k_ne) (by k_ne) (by k_ne) (by k_ne) (by k_ne) mn sN hin hdl
end
end
section
open PySem PySem.W PyProof.Rows PySem.Calls PySem.Spec
set_option maxRecDepth 100000
set_option maxHeartbeats 0
theorem lines_C9d_1 : True := by
  k_with_none
  k_with "eval Constant int" => (refine flat_int ?_)
  k_with "eval Constant str" => (refine flat_str ?_)
  k_with "call builtin:issubclass" => (k_here; k_dflt (refine' issub_call ?kqk1 ?_; (case kqk1 => exact News.get (by k_asm) (by k_mem)); k_whole); intro tk)
  k_with "callWith" => (k_here; (with_reducible show wpAny _ _ (callWith _ (Value.builtin _) (_ :: _) _ _) _ _ _); refine callWith_method1 ?_)
  k_with "exec For Name Name cons nil" => (k_here; (refine hold_it ?_))
  trivial
section
variable {w : World} {mean : ExcName → Option Value} {mg mb : Str → Option Value} {dp un : Nat} {gd : Option (List Code)} {cn : Str} {cs : Scope} {a : Addr} {ccd : Value} {cl : List (Str × Addr)} {outer : List Env} {A₀ : Around} {base h₀ : Heap} {L : Addr} {m : Str → Option Value} {news : List (Addr × Obj)} {s : Shared} {Q E : Value → Shared → Prop}
theorem lines_C9d_2 : True := by
  k_with "call ref" => (k_here; k_dflt (refine' words_spec ?kqk1 ?kqk2 ?kqk3 ?kqk4 ?kqk5 ?kqkK ?kqkd ?kqku ?_; (case kqk1 => k_asm); (case kqk2 => k_asm); (case kqk3 => k_asm); (case kqk4 => k_asm); (case kqk5 => k_asm); (case kqkK => first | exact rfl | assumption); (case kqkd => ktr_room); (case kqku => ktr_units); k_whole); intro D' lf' lw' vf' vw' nf' nw' h' tk' lA' lB' sF' sW' F' N'; (replace lA' := ltN lA'); (replace lB' := ltN lB'); (try k_sweep))
  trivial
theorem due_spec {lnum : Addr} {n : Nat} {vsN : List Value} {ns : List Int} (hI : IntsAre vsN ns) (hlen : ns.length ≤ 19) (hns : ∀ x ∈ ns, 0 ≤ x ∧ x < 1000000)
   (B : Below A₀ base outer h₀) (F : Fr h₀ L s.heap m) (X : (hd.heap_39 w.params).In h₀) (N : News h₀ L s.heap news) (T : Top hd.view_39 (looseW hd.view_39 []) mean mg mb h₀) (hk : cs.kind = .function)
   (hdp : dp + 5 < recursionLimit) (hun : un + 100 < cLine) (hm : (lnum, listOf vsN.toArray n) ∈ news)
   (ret : ∀ r ll lh vL vH nL nH led h' tk', (r, ({ cls := .type "tuple", data := .seq #[.ref ll, .ref lh] } : Obj)) ∈ led → (ll, listOf vL.toArray nL) ∈ led → (lh, listOf vH.toArray nH) ∈ led → HeldIn led vH (ns.foldl step d0).held → DatAll led vL (ns.foldl step d0).log →
     Fr h₀ L h' m → News h₀ L h' (led ++ news) → Q (.ref r) { s with heap := h', toks := tk' }) :
   wpAny (model Challenge.rw_pd0171_01.row.prog w) (ktrTop dp un gd cn cs L a ccd cl outer) (call (.ref 255) [.ref lnum]) Q E s := by
  revert X
  k_fill
  intro X
  have NH : HidN h₀ L s.heap [(lnum, listOf vsN.toArray n)] := ⟨fun p hp => by rw [List.mem_singleton.mp hp]; exact N _ hm⟩
  have NR : RestN h₀ L s.heap [(lnum, listOf vsN.toArray n)] (news.filter (fun q => decide (q.1 ≠ lnum))) := restOf N
  refine wpAny_call ?_
  k_dflt cell_enter
  k_steps
  unfold Hold
  refine due_loop hI (by rfl) (by rfl) (by rfl) (by k_asm) (by k_asm) ?q1 ?q2 ?hm0 ?hit ?turn ?done (by intro _; rfl) (by passes_own)
  case q1 => exact neN (by omega)
  case q2 => exact neN (by omega)
  case hm0 => exact List.forall_mem_cons.mpr ⟨by with_unfolding_all rfl, List.forall_mem_cons.mpr ⟨by with_unfolding_all rfl, List.forall_mem_cons.mpr ⟨by with_unfolding_all rfl, List.forall_mem_cons.mpr ⟨by with_unfolding_all rfl, List.forall_mem_cons.mpr ⟨by with_unfolding_all rfl, List.forall_mem_nil _⟩⟩⟩⟩⟩
  case hit =>
    intro Q' hq
    exact ld (by k_asm) (by rfl) hq
  case done =>
    unfold Hold
    rintro mz lh ln vH vN vL nH nN nL tl d m₁ h tk hS F1 N1
    try k_fold
    k_steps
    have hdd : d = ns.foldl step d0 := by have := hS.ed; rwa [List.take_length] at this
    subst hdd
    (rename News h₀ L _ (List.filter _ _) => hF); (rename News h₀ L _ (_ :: _) => hL)
    have mh := hS.mh
    have hR := rejoin N hm (fun p hp => hL p (by rw [List.mem_singleton.mp hp]; k_mem)) hF
    exact ret _ _ _ _ _ _ _ _ _ _ (by k_mem) (by k_mem) (by k_mem) (hS.hin.mono (fun p hp => by k_mem)) (hS.dl.mono (fun p hp => by k_mem)) (by k_asm) (News.append hL hR)
  case turn =>
    unfold Hold
    rintro mz i x t lh ln vH vN vL nH nN nL tl d m₁ h tk It oI hxi hS hne hnI F1 N1
    obtain ⟨v, κ, j, wd, fd, tw, tf, FF, k0, k6⟩ := due_facts hxi hlen hns (by assumption) (by assumption) hS
    have hcase : κ = 3 ∨ κ = 2 ∨ κ = 4 ∨ κ = 5 ∨ κ = 0 ∨ κ = 1 := by omega
    rcases hcase with hc | hc | hc | hc
    · exact due_t3 (by assumption) (by assumption) (by assumption) hk hdp hun hxi hS hne hnI ⟨neN (by omega), neN (by omega), neN (by omega)⟩ FF hc F1 N1
    · by_cases hd : d.held = []
      · exact due_t2a (by assumption) (by assumption) (by assumption) hk hdp hun hxi hS hne hnI ⟨neN (by omega), neN (by omega), neN (by omega)⟩ FF hc hd F1 N1
      · exact due_t2b (by assumption) (by assumption) (by assumption) hk hdp hun hxi hS hne hnI ⟨neN (by omega), neN (by omega), neN (by omega)⟩ FF hc hd F1 N1
    · by_cases hd : d.held = []
      · exact due_t4a (by assumption) (by assumption) (by assumption) hk hdp hun hxi hS hne hnI ⟨neN (by omega), neN (by omega), neN (by omega)⟩ FF hc hd F1 N1
      · exact due_t4b (by assumption) (by assumption) (by assumption) hk hdp hun hxi hS hne hnI ⟨neN (by omega), neN (by omega), neN (by omega)⟩ FF hc hd F1 N1
    · by_cases hl4 : d.held.length = 4
      · exact due_tf (by assumption) (by assumption) (by assumption) hk hdp hun hxi hS hne hnI ⟨neN (by omega), neN (by omega), neN (by omega)⟩ FF (by omega) hl4 F1 N1
      · rcases hc with hc | hc
        · exact due_t5 (by assumption) (by assumption) (by assumption) hk hdp hun hxi hS hne hnI ⟨neN (by omega), neN (by omega), neN (by omega)⟩ FF hc hl4 F1 N1
        · exact due_to (by assumption) (by assumption) (by assumption) hk hdp hun hxi hS hne hnI ⟨neN (by omega), neN (by omega), neN (by omega)⟩ FF hc hl4 F1 N1
end
end
section
open PySem PySem.W PyProof.Rows PySem.Calls PySem.Spec PyProof.V
set_option maxRecDepth 100000
set_option maxHeartbeats 1000000
/-- what a reading of the numbers gives, as data -/
def resOf (d : DS) : Dat := .tuple [.list d.log, .list (d.held.map fun p => .tuple [.int p.1, .str p.2])]
structure ResIs (led : List (Addr × Obj)) (r : Addr) (d : Dat) : Prop where
  i : DatIn led (.ref r) d
  ok : kqdOk 10 d = true
theorem held_dat {led : List (Addr × Obj)} {vs : List Value} {hs : List (Int × Str)} (x : HeldIn led vs hs) : DatAll led vs (hs.map fun p => .tuple [.int p.1, .str p.2]) := by
  induction x with
  | nil => exact .nil
  | cons hm _ ih => exact .cons (.tuple (n := 0) (vs := [_, _]) hm (.cons (.int _ _) (.cons (.str _ _) .nil))) ih
theorem res_is {led : List (Addr × Obj)} {r ll lh : Addr} {vL vH : List Value} {nL nH i : Nat} {d : DS} (hok : DOK i d) (hr : (r, ({ cls := .type "tuple", data := .seq #[.ref ll, .ref lh] } : Obj)) ∈ led) (hl : (ll, listOf vL.toArray nL) ∈ led) (hh : (lh, listOf vH.toArray nH) ∈ led) (hin : HeldIn led vH d.held) (dl : DatAll led vL d.log) : ResIs led r (resOf d) := by
  refine ⟨.tuple (n := 0) (vs := [_, _]) hr (.cons (.list hl dl) (.cons (.list hh (held_dat hin)) .nil)), ?_⟩
  have h1 : kqdOk 9 (.list d.log) = true := by
    show d.log.all (kqdOk 8) = true
    exact List.all_eq_true.mpr hok.lo
  have h2 : kqdOk 9 (.list (d.held.map fun p => Dat.tuple [.int p.1, .str p.2])) = true := by
    show (d.held.map fun p => Dat.tuple [.int p.1, .str p.2]).all (kqdOk 8) = true
    refine List.all_eq_true.mpr fun e he => ?_
    obtain ⟨p, hp, rfl⟩ := List.mem_map.mp he
    have h3 := (hok.ho p hp).1
    show (kqdOk 7 (.int p.1) && (kqdOk 7 (.str p.2) && true)) = true
    simp [kqdOk, h3]
  show (kqdOk 9 (.list d.log) && (kqdOk 9 (.list (d.held.map fun p => Dat.tuple [.int p.1, .str p.2])) && true)) = true
  rw [h1, h2]; rfl
section
variable {prog : Program} {w : World} {A : Around} {E : Value → Shared → Prop} {s : Shared} {h₀ : Heap} {L a b : Addr} {m : Str → Option Value} {news led1 led2 : List (Addr × Obj)} {d : Dat} {Q : Value → Shared → Prop}
theorem eq_law (N : News h₀ L s.heap (led2 ++ led1)) (Ra : ResIs led1 a d) (Rb : ResIs led2 b d) (hu : A.units + 64 < cLine) (h : Q (.bool true) s) : wpAny (model prog w) A (compareOp .Eq (.ref a) (.ref b)) Q E s := by
  obtain ⟨as, ra⟩ := kqd_in N 10 (Ra.i.mono fun p hp => List.mem_append.mpr (.inr hp)) Ra.ok
  obtain ⟨bs, rb⟩ := kqd_in N 10 (Rb.i.mono fun p hp => List.mem_append.mpr (.inl hp)) Ra.ok
  have la := kqd_lay 10 d Ra.ok
  have e : PyData.eqv (kqdP d) (kqdP d) = true := (kqd_eqv 10 d d 10 Ra.ok Ra.ok).mpr rfl
  refine eq_dataH ra rb ?_ ?_ hu (by rw [e]; exact h)
  · unfold SeqAt.shaped; rw [la.1, Bool.true_and]; exact decide_eq_true (Nat.le_trans la.2 (by decide))
  · unfold SeqAt.shaped; rw [la.1, Bool.true_and]; exact decide_eq_true (Nat.le_trans la.2 (by decide))
/-- the numbers of the script -/
structure NumsOk (vsN : List Value) (ns : List Int) : Prop where
  i : IntsAre vsN ns
  l : ns.length ≤ 19
  n : ∀ x ∈ ns, 0 ≤ x ∧ x < 1000000
theorem ints_append : ∀ {vs ws : List Value} {ns ks : List Int}, IntsAre vs ns → IntsAre ws ks → IntsAre (vs ++ ws) (ns ++ ks)
  | _, _, _, _, .nil, h => h
  | _, _, _, _, .cons i t r, h => .cons i t (ints_append r h)
theorem nums_ok {ys : List Value} {sc : List Int} {t0 t1 t2 : Tok} (h : CarriedAll ys (List.map (fun a => PyData.int (a.fmod 1000000)) (List.filter (fun _ => true) (List.take 16 sc)))) : NumsOk ([Value.int 0 t0, Value.int 1 t1, Value.int 2 t2] ++ ys) ([0, 1, 2] ++ (List.take 16 sc).map fun a => a.fmod 1000000) := by
  rw [List.filter_eq_self.mpr (fun _ _ => rfl)] at h
  refine ⟨ints_append (.cons _ _ (.cons _ _ (.cons _ _ .nil))) (CarriedAll.intsOf h), ?_, fun x hx => ?_⟩
  · simp only [List.length_append, List.length_cons, List.length_nil, List.length_map, List.length_take]; omega
  · rcases List.mem_append.mp hx with hx | hx
    · simp only [List.mem_cons, List.not_mem_nil, or_false] at hx
      omega
    · obtain ⟨y, _, rfl⟩ := List.mem_map.mp hx
      rw [Int.fmod_eq_emod_of_nonneg _ (by decide)]
      omega
theorem law_cat {t0 t1 t2 : Tok} {ys : List Value} {sc : List Int} {n : Nat} (F : Fr h₀ L s.heap m) (N : News h₀ L s.heap news) (ha : (a, listOf #[Value.int 0 t0, Value.int 1 t1, Value.int 2 t2] n) ∈ news) (hb : s.heap.IsList b ys.toArray)
    (hc : CarriedAll ys (List.map (fun a => PyData.int (a.fmod 1000000)) (List.filter (fun _ => true) (List.take 16 sc))))
    (h : ∀ D h', NumsOk ([Value.int 0 t0, Value.int 1 t1, Value.int 2 t2] ++ ys) ([0, 1, 2] ++ (List.take 16 sc).map fun a => a.fmod 1000000) → Fr h₀ L h' m → News h₀ L h' [(D, listOf ([Value.int 0 t0, Value.int 1 t1, Value.int 2 t2] ++ ys).toArray 0)] → Q (.ref D) { s with heap := h' }) : wpAny (model prog w) A (binaryOp .Add (.ref a) (.ref b)) Q E s := by
  have hn := nums_ok (t0 := t0) (t1 := t1) (t2 := t2) hc
  have hl := hn.l
  have hle := hn.i.length
  refine kmk_add_lit (its := #[Value.int 0 t0, Value.int 1 t1, Value.int 2 t2]) F N (l_is (vs := [Value.int 0 t0, Value.int 1 t1, Value.int 2 t2]) N ha) hb rfl (fun D h' F' N' _ => h D h' hn F' fun p hp => N' p ?_) ?_
  · rw [List.mem_singleton.mp hp]; exact .head _
  · have e : ([Value.int 0 t0, Value.int 1 t1, Value.int 2 t2] ++ ys : List Value).length ≤ 100000 := by rw [hle]; omega
    rw [List.length_append] at e
    exact sizeLine_big (by simpa using e)
end
section
variable {w : World} {mean : ExcName → Option Value} {mg mb : Str → Option Value} {dp un : Nat} {gd : Option (List Code)} {cn : Str} {cs : Scope} {a : Addr} {ccd : Value} {cl : List (Str × Addr)} {outer : List Env} {A₀ : Around} {base h₀ : Heap} {L : Addr} {m : Str → Option Value} {news : List (Addr × Obj)} {s : Shared} {Q E : Value → Shared → Prop}
theorem nums_dok {vsN : List Value} {ns : List Int} (h : NumsOk vsN ns) : DOK ns.length (ns.foldl step d0) := by
  have := dok_fold (fun x hx => (h.n x hx).1) ns.length (Nat.le_refl _)
  rwa [List.take_length] at this
theorem talk_law {lnum : Addr} {n : Nat} {vsN : List Value} {ns : List Int} (hn : NumsOk vsN ns)
   (B : Below A₀ h₀ [] h₀) (F : Fr h₀ L s.heap m) (X : (hd.heap_39 w.params).In h₀) (N : News h₀ L s.heap news) (T : Top hd.view_39 (looseW hd.view_39 []) mean mg mb h₀) (hk : cs.kind = .function)
   (hdp : dp + 7 < recursionLimit) (hun : un + 101 < cLine) (hm : (lnum, listOf vsN.toArray n) ∈ news)
   (ret : ∀ r led h' tk', ResIs led r (resOf (ns.foldl step d0)) → (lnum, listOf vsN.toArray n) ∈ led → Fr h₀ L h' m → News h₀ L h' led → Q (.ref r) { s with heap := h', toks := tk' }) :
   wpAny (model Challenge.rw_pd0171_01.row.prog w) (ktrTop dp un gd cn cs L a ccd [] []) (call (.ref 236) [.ref lnum]) Q E s :=
  talk_spec hn.i hn.l hn.n X T B F X N T hk hdp hun hm fun r ll lh vL vH nL nH led h' tk' a1 a2 a3 a4 a5 a6 F' N' => ret r led h' tk' (res_is (nums_dok hn) a1 a2 a3 a5 a6) a4 F' N'
theorem due_law {lnum : Addr} {n : Nat} {vsN : List Value} {ns : List Int} (hn : NumsOk vsN ns) (hm : (lnum, listOf vsN.toArray n) ∈ news)
   (B : Below A₀ base outer h₀) (F : Fr h₀ L s.heap m) (X : (hd.heap_39 w.params).In h₀) (N : News h₀ L s.heap news) (T : Top hd.view_39 (looseW hd.view_39 []) mean mg mb h₀) (hk : cs.kind = .function)
   (hdp : dp + 5 < recursionLimit) (hun : un + 100 < cLine)
   (ret : ∀ r led h' tk', ResIs led r (resOf (ns.foldl step d0)) → Fr h₀ L h' m → News h₀ L h' (led ++ news) → Q (.ref r) { s with heap := h', toks := tk' }) :
   wpAny (model Challenge.rw_pd0171_01.row.prog w) (ktrTop dp un gd cn cs L a ccd cl outer) (call (.ref 255) [.ref lnum]) Q E s :=
  due_spec hn.i hn.l hn.n B F X N T hk hdp hun hm fun r ll lh vL vH nL nH led h' tk' a1 a2 a3 a5 a6 F' N' => ret r led h' tk' (res_is (nums_dok hn) a1 a2 a3 a5 a6) F' N'
end
end
section
open PySem PySem.W PyProof.Rows PySem.Calls PySem.Spec
set_option maxRecDepth 100000
set_option maxHeartbeats 0
theorem lines_L1_1 : True := by
  k_with_none
  k_with "eval Constant int" => (refine flat_int ?_)
  k_with "eval Constant str" => (refine flat_str ?_)
  k_with "binaryOp Add ref ref" => (k_here; k_dflt (refine' law_cat ?kqf ?kqn ?kqm ?kqb ?kqc ?_; (case kqf => k_asm); (case kqn => k_asm); (case kqm => k_mem); (case kqb => assumption); (case kqc => assumption); k_whole); intro D' h' hn' F' N'; (try k_sweep))
  k_with "call ref" => (k_here; (with_reducible show wpAny _ _ (call (Value.ref 236) _) _ _ _); k_dflt (refine' talk_law ?kqhn ?kqk1 ?kqk2 ?kqk3 ?kqk4 ?kqk5 ?kqkK ?kqkd ?kqku ?kqhm ?_; (case kqhn => assumption); (case kqk1 => k_asm); (case kqk2 => k_asm); (case kqk3 => k_asm); (case kqk4 => k_asm); (case kqk5 => k_asm); (case kqkK => first | exact rfl | assumption); (case kqkd => ktr_room); (case kqku => ktr_units); (case kqhm => k_mem); k_whole); intro r' led' h' tk' R' M' F' N'; (try k_sweep))
  k_with "call ref" => (k_here; (with_reducible show wpAny _ _ (call (Value.ref 255) _) _ _ _); k_dflt (refine' due_law ?kqhn ?kqhm ?kqk1 ?kqk2 ?kqk3 ?kqk4 ?kqk5 ?kqkK ?kqkd ?kqku ?_; (case kqhn => assumption); (case kqk1 => k_asm); (case kqk2 => k_asm); (case kqk3 => k_asm); (case kqhm => assumption); (case kqk4 => k_asm); (case kqk5 => k_asm); (case kqkK => first | exact rfl | assumption); (case kqkd => ktr_room); (case kqku => ktr_units); k_whole); intro r' led' h' tk' R' F' N'; (try k_sweep))
  k_with "compareOp Eq ref ref" => (k_here; k_dflt (refine' eq_law ?kqn ?kqa ?kqb ?kqu ?_; (case kqn => k_asm); (case kqa => assumption); (case kqb => assumption); (case kqu => ktr_units); k_whole))
  trivial
theorem law_holds : PySem.Challenge.rw_pd0171_01.Holds := hd (by
  k_go0
  all_goals try k_fold
  k_steps
  trace_state)
end
end Mine
theorem PySem.Challenge.cw_pd0171_01_holds : PySem.Challenge.rw_pd0171_01.Holds := by
  exact Mine.law_holds
